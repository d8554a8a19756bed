import JvmDerived
import JvmDerived.Pilot.@@N@@Statement
import JvmDerived.Pilot.@@N@@Code
set_option linter.unusedVariables false
set_option linter.unusedSimpArgs false
namespace Jvm.Pilot.@@N@@
open Jvm Jvm.ClassFile Sem Op Lib Jvm.Free Jvm.Stand Jvm.LawKit Jvm.RoadKit Bundle Jvm.Pilot.@@N@@.Jvm.D
def G (p : Program) (l : Launch) (e : Env) (R : Room) (s : State) (m : MethodId) (args : Array Value) (below : List Frame) (meth : Method) (c : Code) (n0 : Nat) (Q : Option Value → Heap → Prop) (h : Heap) (k n : Nat) (pc : Nat) (Ls : Array Slot) (st : List Value) : Prop :=
  ∀ T locs cells slots, Stand p l e R s m args below meth c T locs cells slots → Fr n0 locs → T.heap = h → cells ≤ k → slots ≤ n →
    ∃ s₂ o, Steps p.tables e below (T.setTop (mkF m pc Ls st)) s₂ ∧ s₂.status = .running ∧ Ended s₂ below o ∧ ∃ v L, o = .returned v ∧ (Q v s₂.heap ∧ Fr n0 L) ∧ FrameEnd s o s₂ L R.cells R.slots
def Cx (Z : State) (p : Program) (s : State) (m : MethodId) (meth : Method) (c : Code) (R : Room) (k n : Nat) (own nm : String) (code : ByteArray) (maxL : Nat) (ret : Option FieldType) : Prop :=
  p.tables.exec = Jvm.exec ∧ Z.Warmed39 s.vm ∧ s.vm.findClass own = some m.cls ∧ c.code = code ∧ c.maxLocals = maxL ∧ meth.sig.returnType = ret ∧ meth.name = nm ∧ meth.locks = false
def Dc (code : ByteArray) (pc : Nat) (i : Instr) (len pc' : Nat) : Prop := decode code pc = .ok (i, len) ∧ pc + len = pc'
def Bi (code : ByteArray) (pc : Nat) (f : Int → Instr) (pcY pcN : Nat) : Prop := ∃ o, decode code pc = .ok (f o, 3) ∧ 0 ≤ (pc : Int) + o ∧ ((pc : Int) + o).toNat = pcY ∧ pc + 3 = pcN
def Met (l : Launch) (Z : State) (y : MethodName) (bytes : ByteArray) (maxL : Nat) (ret : Option FieldType) (rm : Room) (as : Array Value) (h0 : Heap) (Q : Option Value → Heap → Prop) : Prop :=
  ∀ ws, MetFree l y (head1 (Jvm.Cond.code y bytes maxL ret :: ws) rm) (fun a U => a = as ∧ Z.Warmed39 U.vm ∧ U.heap = h0) (fun _ _ _ _ _ => True) (fun _ U o U' => ∃ v L, o = .returned v ∧ (Q v U'.heap ∧ Fr Z.heap.size L) ∧ FrameEnd U o U' L rm.cells rm.slots)

def Arx (Z : State) (h : Heap) (a : Addr) (k : ClassId) (ty : FieldType) (z : Int32) (vs : List Value) (dv : Value) (ad : String) : Prop := Arv Z h a k ty z vs dv ∧ Exa Z h a ad
section ArxS
variable {Z : State} {h h' : Heap} {a x : Addr} {k : ClassId} {ty : FieldType} {z : Int32} {vs vs' : List Value} {dv w : Value} {ad : String} {sl : Nat} {ws : List Addr}
theorem Arx.ext (F : Arx Z h a k ty z vs dv ad) (E : Ext h h') : Arx Z h' a k ty z vs dv ad := ⟨F.1.ext E, F.2.ext E⟩
theorem Arx.other (F : Arx Z h a k ty z vs dv ad) (W : Wr h h' x sl w) (q : a ≠ x) : Arx Z h' a k ty z vs dv ad := ⟨F.1.other W q, F.2.wr W⟩
theorem Arx.keep (F : Arx Z h a k ty z vs dv ad) (K : Keep h h' ws) (q : a ∉ ws) : Arx Z h' a k ty z vs dv ad := ⟨F.1.keep K q, F.2.keep K⟩
theorem Arx.lt (F : Arx Z h a k ty z vs dv ad) : a < h.size := F.1.lt
theorem Arx.pad (F : Arx Z h a k ty z vs dv ad) (q : ∀ i, vs'.getD i dv = vs.getD i dv) : Arx Z h a k ty z vs' dv ad := ⟨F.1.pad q, F.2⟩
theorem sto_of {C : String} {y : Addr} (A : Arx Z h a k ty z vs dv ad) (O : Ovr Z k C) (I : Ins Z h y C true) : Sto Z h a (.ref y) := by
  obtain ⟨⟨c, Ar, q, -⟩, -⟩ := A; exact Sto.ofV Ar q O I
theorem sto_ofA {C : String} {y : Addr} {t : FieldType} (A : Arx Z h a k ty z vs dv ad) (O : OvrA Z k t C) (I : Ins Z h y C true) : Sto Z h a (.ref y) := by
  obtain ⟨⟨c, Ar, q, -⟩, -⟩ := A; exact Sto.ofVA Ar q O I
end ArxS
section Walk
variable {p : Program} {l : Launch} {e : Env} {R : Room} {s : State} {m : MethodId} {args : Array Value} {below : List Frame} {meth : Method} {c : Code} {Z : State} {a0 : Array Value} {k n : Nat} {own nm : String} {code : ByteArray} {maxL : Nat} {ret : Option FieldType} {n0 : Nat} {Q : Option Value → Heap → Prop} {h : Heap} {pc pc' pcY pcN : Nat} {Ls : Array Slot} {st rest : List Value}
theorem G.mono {k' n' : Nat} (H : G p l e R s m args below meth c Z.heap.size Q h k n pc Ls st) (hk : k' ≤ k) (hn : n' ≤ n) : G p l e R s m args below meth c Z.heap.size Q h k' n' pc Ls st :=
  fun T locs cells slots X N eT a b => H T locs cells slots X N eT (Nat.le_trans a hk) (Nat.le_trans b hn)
theorem G.cast {st' : List Value} (H : G p l e R s m args below meth c Z.heap.size Q h k n pc Ls st') (q : st = st') : G p l e R s m args below meth c Z.heap.size Q h k n pc Ls st := q ▸ H
theorem G.post {Q' : Option Value → Heap → Prop} (H : G p l e R s m args below meth c Z.heap.size Q h k n pc Ls st) (q : ∀ v h, Q v h → Q' v h) : G p l e R s m args below meth c Z.heap.size Q' h k n pc Ls st :=
  fun T locs cells slots X N eT a b => by
    obtain ⟨s₂, o, h1, h2, h3, v, L, h4, ⟨h5, h6⟩, h7⟩ := H T locs cells slots X N eT a b
    exact ⟨s₂, o, h1, h2, h3, v, L, h4, ⟨q _ _ h5, h6⟩, h7⟩
theorem met_of {y : MethodName} {bytes : ByteArray} {rm : Room} {as : Array Value} {h0 : Heap} (pn : plainFor y = true) (ef : ∀ m, entryFrame m as maxL = mkF m 0 Ls [])
    (body : ∀ p e s m below meth c, Cx Z p s m meth c rm 0 0 y.cls y.name bytes maxL ret → G p l e rm s m as below meth c Z.heap.size Q h0 0 0 0 Ls []) : Met l Z y bytes maxL ret rm as h0 Q := by
  intro ws
  refine MetFree.of_bodySF pn hisR ?_
  intro p e s m args below meth c s₁ Bd hml0 hP hK
  obtain ⟨rfl, hZ, hh⟩ := hP
  have e0 : s₁.heap = h0 := by rw [← hh, Bd.state]; rfl
  have X0 : Stand p l e rm s m args below meth c s₁ [] 0 0 := Stand.of_body Bd
  rw [ef m]
  exact body p e s m below meth c ⟨Bd.exec, hZ, findClass_of_methodNamed Bd.named, Bd.bytes, hml0, Bd.returns, (name_of_methodNamed Bd.named Bd.method).1, BodyLoose.notSynchronized Bd⟩ s₁ [] 0 0 X0 (Fr.nil _) e0 (Nat.le_refl _) (Nat.le_refl _)
theorem g_iloadN {kx nx : Nat} (cx : Cx Z p s m meth c R kx nx own nm code maxL ret) {i : Fin 4} {v : Int32} (d : Dc code pc (.iload_n i) 1 pc') (hl : Ls[i.val]? = some (.val (.int v))) (H : G p l e R s m args below meth c Z.heap.size Q h k n pc' Ls (.int v :: st)) : G p l e R s m args below meth c Z.heap.size Q h k n pc Ls st := by
  obtain ⟨hx, hZ, hown, rfl, hml, hret, hnm, -⟩ := cx
  obtain ⟨d, rfl⟩ := d
  intro T locs cells slots X N eT hk hn
  obtain ⟨s₂, o, st2, r⟩ := H T locs cells slots X N eT hk hn
  exact ⟨s₂, o, Jvm.Free.XS.iloadN X.here hx rfl d hl st2, r⟩
theorem g_iload {kx nx : Nat} (cx : Cx Z p s m meth c R kx nx own nm code maxL ret) {i : Nat} {v : Int32} (d : Dc code pc (.iload i) 2 pc') (hl : Ls[i]? = some (.val (.int v))) (H : G p l e R s m args below meth c Z.heap.size Q h k n pc' Ls (.int v :: st)) : G p l e R s m args below meth c Z.heap.size Q h k n pc Ls st := by
  obtain ⟨hx, hZ, hown, rfl, hml, hret, hnm, -⟩ := cx
  obtain ⟨d, rfl⟩ := d
  intro T locs cells slots X N eT hk hn
  obtain ⟨s₂, o, st2, r⟩ := H T locs cells slots X N eT hk hn
  exact ⟨s₂, o, Jvm.Free.XS.iload X.here hx rfl d hl st2, r⟩
theorem g_istoreN {kx nx : Nat} (cx : Cx Z p s m meth c R kx nx own nm code maxL ret) {i : Fin 4} {v : Int32} {Ls' : Array Slot} (d : Dc code pc (.istore_n i) 1 pc') (hl : storeLocals Ls i.val (.int v) = some Ls') (H : G p l e R s m args below meth c Z.heap.size Q h k n pc' Ls' st) : G p l e R s m args below meth c Z.heap.size Q h k n pc Ls (.int v :: st) := by
  obtain ⟨hx, hZ, hown, rfl, hml, hret, hnm, -⟩ := cx
  obtain ⟨d, rfl⟩ := d
  intro T locs cells slots X N eT hk hn
  obtain ⟨s₂, o, st2, r⟩ := H T locs cells slots X N eT hk hn
  exact ⟨s₂, o, Jvm.Free.XS.istoreN X.here hx rfl d rfl hl st2, r⟩
theorem g_istore {kx nx : Nat} (cx : Cx Z p s m meth c R kx nx own nm code maxL ret) {i : Nat} {v : Int32} {Ls' : Array Slot} (d : Dc code pc (.istore i) 2 pc') (hl : storeLocals Ls i (.int v) = some Ls') (H : G p l e R s m args below meth c Z.heap.size Q h k n pc' Ls' st) : G p l e R s m args below meth c Z.heap.size Q h k n pc Ls (.int v :: st) := by
  obtain ⟨hx, hZ, hown, rfl, hml, hret, hnm, -⟩ := cx
  obtain ⟨d, rfl⟩ := d
  intro T locs cells slots X N eT hk hn
  obtain ⟨s₂, o, st2, r⟩ := H T locs cells slots X N eT hk hn
  exact ⟨s₂, o, Jvm.Free.XS.istore X.here hx rfl d rfl hl st2, r⟩
theorem g_lloadN {kx nx : Nat} (cx : Cx Z p s m meth c R kx nx own nm code maxL ret) {i : Fin 4} {v : Int64} (d : Dc code pc (.lload_n i) 1 pc') (hl : Ls[i.val]? = some (.val (.long v))) (H : G p l e R s m args below meth c Z.heap.size Q h k n pc' Ls (.long v :: st)) : G p l e R s m args below meth c Z.heap.size Q h k n pc Ls st := by
  obtain ⟨hx, hZ, hown, rfl, hml, hret, hnm, -⟩ := cx
  obtain ⟨d, rfl⟩ := d
  intro T locs cells slots X N eT hk hn
  obtain ⟨s₂, o, st2, r⟩ := H T locs cells slots X N eT hk hn
  exact ⟨s₂, o, Jvm.Free.XS.lloadN X.here hx rfl d hl st2, r⟩
theorem g_lload {kx nx : Nat} (cx : Cx Z p s m meth c R kx nx own nm code maxL ret) {i : Nat} {v : Int64} (d : Dc code pc (.lload i) 2 pc') (hl : Ls[i]? = some (.val (.long v))) (H : G p l e R s m args below meth c Z.heap.size Q h k n pc' Ls (.long v :: st)) : G p l e R s m args below meth c Z.heap.size Q h k n pc Ls st := by
  obtain ⟨hx, hZ, hown, rfl, hml, hret, hnm, -⟩ := cx
  obtain ⟨d, rfl⟩ := d
  intro T locs cells slots X N eT hk hn
  obtain ⟨s₂, o, st2, r⟩ := H T locs cells slots X N eT hk hn
  exact ⟨s₂, o, Jvm.Free.XS.lload X.here hx rfl d hl st2, r⟩
theorem g_lstoreN {kx nx : Nat} (cx : Cx Z p s m meth c R kx nx own nm code maxL ret) {i : Fin 4} {v : Int64} {Ls' : Array Slot} (d : Dc code pc (.lstore_n i) 1 pc') (hl : storeLocals Ls i.val (.long v) = some Ls') (H : G p l e R s m args below meth c Z.heap.size Q h k n pc' Ls' st) : G p l e R s m args below meth c Z.heap.size Q h k n pc Ls (.long v :: st) := by
  obtain ⟨hx, hZ, hown, rfl, hml, hret, hnm, -⟩ := cx
  obtain ⟨d, rfl⟩ := d
  intro T locs cells slots X N eT hk hn
  obtain ⟨s₂, o, st2, r⟩ := H T locs cells slots X N eT hk hn
  exact ⟨s₂, o, Jvm.Free.XS.lstoreN X.here hx rfl d rfl hl st2, r⟩
theorem g_lstore {kx nx : Nat} (cx : Cx Z p s m meth c R kx nx own nm code maxL ret) {i : Nat} {v : Int64} {Ls' : Array Slot} (d : Dc code pc (.lstore i) 2 pc') (hl : storeLocals Ls i (.long v) = some Ls') (H : G p l e R s m args below meth c Z.heap.size Q h k n pc' Ls' st) : G p l e R s m args below meth c Z.heap.size Q h k n pc Ls (.long v :: st) := by
  obtain ⟨hx, hZ, hown, rfl, hml, hret, hnm, -⟩ := cx
  obtain ⟨d, rfl⟩ := d
  intro T locs cells slots X N eT hk hn
  obtain ⟨s₂, o, st2, r⟩ := H T locs cells slots X N eT hk hn
  exact ⟨s₂, o, Jvm.Free.XS.lstore X.here hx rfl d rfl hl st2, r⟩
theorem g_aloadN {kx nx : Nat} (cx : Cx Z p s m meth c R kx nx own nm code maxL ret) {i : Fin 4} {v : Value} (d : Dc code pc (.aload_n i) 1 pc') (hl : Ls[i.val]? = some (.val v)) (hv : v.isRef = true) (H : G p l e R s m args below meth c Z.heap.size Q h k n pc' Ls (v :: st)) : G p l e R s m args below meth c Z.heap.size Q h k n pc Ls st := by
  obtain ⟨hx, hZ, hown, rfl, hml, hret, hnm, -⟩ := cx
  obtain ⟨d, rfl⟩ := d
  intro T locs cells slots X N eT hk hn
  obtain ⟨s₂, o, st2, r⟩ := H T locs cells slots X N eT hk hn
  exact ⟨s₂, o, Jvm.Free.XS.aloadN X.here hx rfl d hl hv st2, r⟩
theorem g_aload {kx nx : Nat} (cx : Cx Z p s m meth c R kx nx own nm code maxL ret) {i : Nat} {v : Value} (d : Dc code pc (.aload i) 2 pc') (hl : Ls[i]? = some (.val v)) (hv : v.isRef = true) (H : G p l e R s m args below meth c Z.heap.size Q h k n pc' Ls (v :: st)) : G p l e R s m args below meth c Z.heap.size Q h k n pc Ls st := by
  obtain ⟨hx, hZ, hown, rfl, hml, hret, hnm, -⟩ := cx
  obtain ⟨d, rfl⟩ := d
  intro T locs cells slots X N eT hk hn
  obtain ⟨s₂, o, st2, r⟩ := H T locs cells slots X N eT hk hn
  exact ⟨s₂, o, Jvm.Free.XS.aload X.here hx rfl d hl hv st2, r⟩
theorem g_astoreN {kx nx : Nat} (cx : Cx Z p s m meth c R kx nx own nm code maxL ret) {i : Fin 4} {v : Value} {Ls' : Array Slot} (d : Dc code pc (.astore_n i) 1 pc') (hv : v.isRef = true) (hl : storeLocals Ls i.val v = some Ls') (H : G p l e R s m args below meth c Z.heap.size Q h k n pc' Ls' st) : G p l e R s m args below meth c Z.heap.size Q h k n pc Ls (v :: st) := by
  obtain ⟨hx, hZ, hown, rfl, hml, hret, hnm, -⟩ := cx
  obtain ⟨d, rfl⟩ := d
  intro T locs cells slots X N eT hk hn
  obtain ⟨s₂, o, st2, r⟩ := H T locs cells slots X N eT hk hn
  exact ⟨s₂, o, Jvm.Free.XS.astoreN X.here hx rfl d rfl hv hl st2, r⟩
theorem g_astore {kx nx : Nat} (cx : Cx Z p s m meth c R kx nx own nm code maxL ret) {i : Nat} {v : Value} {Ls' : Array Slot} (d : Dc code pc (.astore i) 2 pc') (hv : v.isRef = true) (hl : storeLocals Ls i v = some Ls') (H : G p l e R s m args below meth c Z.heap.size Q h k n pc' Ls' st) : G p l e R s m args below meth c Z.heap.size Q h k n pc Ls (v :: st) := by
  obtain ⟨hx, hZ, hown, rfl, hml, hret, hnm, -⟩ := cx
  obtain ⟨d, rfl⟩ := d
  intro T locs cells slots X N eT hk hn
  obtain ⟨s₂, o, st2, r⟩ := H T locs cells slots X N eT hk hn
  exact ⟨s₂, o, Jvm.Free.XS.astore X.here hx rfl d rfl hv hl st2, r⟩
theorem g_iconst {kx nx : Nat} (cx : Cx Z p s m meth c R kx nx own nm code maxL ret) {i : Int} {v : Int32} (d : Dc code pc (.iconst i) 1 pc') (hv : Int32.ofInt i = v) (H : G p l e R s m args below meth c Z.heap.size Q h k n pc' Ls (.int v :: st)) : G p l e R s m args below meth c Z.heap.size Q h k n pc Ls st := by
  obtain ⟨hx, hZ, hown, rfl, hml, hret, hnm, -⟩ := cx
  obtain ⟨d, rfl⟩ := d
  intro T locs cells slots X N eT hk hn
  obtain ⟨s₂, o, st2, r⟩ := H T locs cells slots X N eT hk hn
  exact ⟨s₂, o, Jvm.Free.XS.iconst X.here hx rfl d (by rw [hv]; exact st2), r⟩
theorem g_bipush {kx nx : Nat} (cx : Cx Z p s m meth c R kx nx own nm code maxL ret) {i : Int} {v : Int32} (d : Dc code pc (.bipush i) 2 pc') (hv : (Int8.ofInt i).toInt32 = v) (H : G p l e R s m args below meth c Z.heap.size Q h k n pc' Ls (.int v :: st)) : G p l e R s m args below meth c Z.heap.size Q h k n pc Ls st := by
  obtain ⟨hx, hZ, hown, rfl, hml, hret, hnm, -⟩ := cx
  obtain ⟨d, rfl⟩ := d
  intro T locs cells slots X N eT hk hn
  obtain ⟨s₂, o, st2, r⟩ := H T locs cells slots X N eT hk hn
  exact ⟨s₂, o, Jvm.Free.XS.bipush X.here hx rfl d (by rw [hv]; exact st2), r⟩
theorem g_sipush {kx nx : Nat} (cx : Cx Z p s m meth c R kx nx own nm code maxL ret) {i : Int} {v : Int32} (d : Dc code pc (.sipush i) 3 pc') (hv : (Int16.ofInt i).toInt32 = v) (H : G p l e R s m args below meth c Z.heap.size Q h k n pc' Ls (.int v :: st)) : G p l e R s m args below meth c Z.heap.size Q h k n pc Ls st := by
  obtain ⟨hx, hZ, hown, rfl, hml, hret, hnm, -⟩ := cx
  obtain ⟨d, rfl⟩ := d
  intro T locs cells slots X N eT hk hn
  obtain ⟨s₂, o, st2, r⟩ := H T locs cells slots X N eT hk hn
  exact ⟨s₂, o, Jvm.Free.XS.sipush X.here hx rfl d (by rw [hv]; exact st2), r⟩
theorem g_lconst {kx nx : Nat} (cx : Cx Z p s m meth c R kx nx own nm code maxL ret) {i : Fin 2} {v : Int64} (d : Dc code pc (.lconst i) 1 pc') (hv : Int64.ofNat i = v) (H : G p l e R s m args below meth c Z.heap.size Q h k n pc' Ls (.long v :: st)) : G p l e R s m args below meth c Z.heap.size Q h k n pc Ls st := by
  obtain ⟨hx, hZ, hown, rfl, hml, hret, hnm, -⟩ := cx
  obtain ⟨d, rfl⟩ := d
  intro T locs cells slots X N eT hk hn
  obtain ⟨s₂, o, st2, r⟩ := H T locs cells slots X N eT hk hn
  exact ⟨s₂, o, Jvm.Free.XS.lconst X.here hx rfl d (by rw [hv]; exact st2), r⟩
theorem g_aconst_null {kx nx : Nat} (cx : Cx Z p s m meth c R kx nx own nm code maxL ret)  (d : Dc code pc .aconst_null 1 pc') (H : G p l e R s m args below meth c Z.heap.size Q h k n pc' Ls (.null :: st)) : G p l e R s m args below meth c Z.heap.size Q h k n pc Ls st := by
  obtain ⟨hx, hZ, hown, rfl, hml, hret, hnm, -⟩ := cx
  obtain ⟨d, rfl⟩ := d
  intro T locs cells slots X N eT hk hn
  obtain ⟨s₂, o, st2, r⟩ := H T locs cells slots X N eT hk hn
  exact ⟨s₂, o, Jvm.Free.XS.aconstNull X.here hx rfl d  st2, r⟩
theorem g_iadd {kx nx : Nat} (cx : Cx Z p s m meth c R kx nx own nm code maxL ret) {x y : Int32} (d : Dc code pc .iadd 1 pc') (H : G p l e R s m args below meth c Z.heap.size Q h k n pc' Ls (.int (x + y) :: st)) : G p l e R s m args below meth c Z.heap.size Q h k n pc Ls (.int y :: .int x :: st) := by
  obtain ⟨hx, hZ, hown, rfl, hml, hret, hnm, -⟩ := cx
  obtain ⟨d, rfl⟩ := d
  intro T locs cells slots X N eT hk hn
  obtain ⟨s₂, o, st2, r⟩ := H T locs cells slots X N eT hk hn
  exact ⟨s₂, o, Jvm.Free.XS.iadd X.here hx rfl d rfl st2, r⟩
theorem g_ladd {kx nx : Nat} (cx : Cx Z p s m meth c R kx nx own nm code maxL ret) {x y : Int64} (d : Dc code pc .ladd 1 pc') (H : G p l e R s m args below meth c Z.heap.size Q h k n pc' Ls (.long (x + y) :: st)) : G p l e R s m args below meth c Z.heap.size Q h k n pc Ls (.long y :: .long x :: st) := by
  obtain ⟨hx, hZ, hown, rfl, hml, hret, hnm, -⟩ := cx
  obtain ⟨d, rfl⟩ := d
  intro T locs cells slots X N eT hk hn
  obtain ⟨s₂, o, st2, r⟩ := H T locs cells slots X N eT hk hn
  exact ⟨s₂, o, Jvm.Free.XS.ladd X.here hx rfl d rfl st2, r⟩
theorem g_isub {kx nx : Nat} (cx : Cx Z p s m meth c R kx nx own nm code maxL ret) {x y : Int32} (d : Dc code pc .isub 1 pc') (H : G p l e R s m args below meth c Z.heap.size Q h k n pc' Ls (.int (x - y) :: st)) : G p l e R s m args below meth c Z.heap.size Q h k n pc Ls (.int y :: .int x :: st) := by
  obtain ⟨hx, hZ, hown, rfl, hml, hret, hnm, -⟩ := cx
  obtain ⟨d, rfl⟩ := d
  intro T locs cells slots X N eT hk hn
  obtain ⟨s₂, o, st2, r⟩ := H T locs cells slots X N eT hk hn
  exact ⟨s₂, o, Jvm.Free.XS.isub X.here hx rfl d rfl st2, r⟩
theorem g_lsub {kx nx : Nat} (cx : Cx Z p s m meth c R kx nx own nm code maxL ret) {x y : Int64} (d : Dc code pc .lsub 1 pc') (H : G p l e R s m args below meth c Z.heap.size Q h k n pc' Ls (.long (x - y) :: st)) : G p l e R s m args below meth c Z.heap.size Q h k n pc Ls (.long y :: .long x :: st) := by
  obtain ⟨hx, hZ, hown, rfl, hml, hret, hnm, -⟩ := cx
  obtain ⟨d, rfl⟩ := d
  intro T locs cells slots X N eT hk hn
  obtain ⟨s₂, o, st2, r⟩ := H T locs cells slots X N eT hk hn
  exact ⟨s₂, o, Jvm.Free.XS.lsub X.here hx rfl d rfl st2, r⟩
theorem g_imul {kx nx : Nat} (cx : Cx Z p s m meth c R kx nx own nm code maxL ret) {x y : Int32} (d : Dc code pc .imul 1 pc') (H : G p l e R s m args below meth c Z.heap.size Q h k n pc' Ls (.int (x * y) :: st)) : G p l e R s m args below meth c Z.heap.size Q h k n pc Ls (.int y :: .int x :: st) := by
  obtain ⟨hx, hZ, hown, rfl, hml, hret, hnm, -⟩ := cx
  obtain ⟨d, rfl⟩ := d
  intro T locs cells slots X N eT hk hn
  obtain ⟨s₂, o, st2, r⟩ := H T locs cells slots X N eT hk hn
  exact ⟨s₂, o, Jvm.Free.XS.imul X.here hx rfl d rfl st2, r⟩
theorem g_lmul {kx nx : Nat} (cx : Cx Z p s m meth c R kx nx own nm code maxL ret) {x y : Int64} (d : Dc code pc .lmul 1 pc') (H : G p l e R s m args below meth c Z.heap.size Q h k n pc' Ls (.long (x * y) :: st)) : G p l e R s m args below meth c Z.heap.size Q h k n pc Ls (.long y :: .long x :: st) := by
  obtain ⟨hx, hZ, hown, rfl, hml, hret, hnm, -⟩ := cx
  obtain ⟨d, rfl⟩ := d
  intro T locs cells slots X N eT hk hn
  obtain ⟨s₂, o, st2, r⟩ := H T locs cells slots X N eT hk hn
  exact ⟨s₂, o, Jvm.Free.XS.lmul X.here hx rfl d rfl st2, r⟩
theorem g_iand {kx nx : Nat} (cx : Cx Z p s m meth c R kx nx own nm code maxL ret) {x y : Int32} (d : Dc code pc .iand 1 pc') (H : G p l e R s m args below meth c Z.heap.size Q h k n pc' Ls (.int (x &&& y) :: st)) : G p l e R s m args below meth c Z.heap.size Q h k n pc Ls (.int y :: .int x :: st) := by
  obtain ⟨hx, hZ, hown, rfl, hml, hret, hnm, -⟩ := cx
  obtain ⟨d, rfl⟩ := d
  intro T locs cells slots X N eT hk hn
  obtain ⟨s₂, o, st2, r⟩ := H T locs cells slots X N eT hk hn
  exact ⟨s₂, o, Jvm.Free.XS.iand X.here hx rfl d rfl st2, r⟩
theorem g_land {kx nx : Nat} (cx : Cx Z p s m meth c R kx nx own nm code maxL ret) {x y : Int64} (d : Dc code pc .land 1 pc') (H : G p l e R s m args below meth c Z.heap.size Q h k n pc' Ls (.long (x &&& y) :: st)) : G p l e R s m args below meth c Z.heap.size Q h k n pc Ls (.long y :: .long x :: st) := by
  obtain ⟨hx, hZ, hown, rfl, hml, hret, hnm, -⟩ := cx
  obtain ⟨d, rfl⟩ := d
  intro T locs cells slots X N eT hk hn
  obtain ⟨s₂, o, st2, r⟩ := H T locs cells slots X N eT hk hn
  exact ⟨s₂, o, Jvm.Free.XS.land X.here hx rfl d rfl st2, r⟩
theorem g_ior {kx nx : Nat} (cx : Cx Z p s m meth c R kx nx own nm code maxL ret) {x y : Int32} (d : Dc code pc .ior 1 pc') (H : G p l e R s m args below meth c Z.heap.size Q h k n pc' Ls (.int (x ||| y) :: st)) : G p l e R s m args below meth c Z.heap.size Q h k n pc Ls (.int y :: .int x :: st) := by
  obtain ⟨hx, hZ, hown, rfl, hml, hret, hnm, -⟩ := cx
  obtain ⟨d, rfl⟩ := d
  intro T locs cells slots X N eT hk hn
  obtain ⟨s₂, o, st2, r⟩ := H T locs cells slots X N eT hk hn
  exact ⟨s₂, o, Jvm.Free.XS.ior X.here hx rfl d rfl st2, r⟩
theorem g_lor {kx nx : Nat} (cx : Cx Z p s m meth c R kx nx own nm code maxL ret) {x y : Int64} (d : Dc code pc .lor 1 pc') (H : G p l e R s m args below meth c Z.heap.size Q h k n pc' Ls (.long (x ||| y) :: st)) : G p l e R s m args below meth c Z.heap.size Q h k n pc Ls (.long y :: .long x :: st) := by
  obtain ⟨hx, hZ, hown, rfl, hml, hret, hnm, -⟩ := cx
  obtain ⟨d, rfl⟩ := d
  intro T locs cells slots X N eT hk hn
  obtain ⟨s₂, o, st2, r⟩ := H T locs cells slots X N eT hk hn
  exact ⟨s₂, o, Jvm.Free.XS.lor X.here hx rfl d rfl st2, r⟩
theorem g_ixor {kx nx : Nat} (cx : Cx Z p s m meth c R kx nx own nm code maxL ret) {x y : Int32} (d : Dc code pc .ixor 1 pc') (H : G p l e R s m args below meth c Z.heap.size Q h k n pc' Ls (.int (x ^^^ y) :: st)) : G p l e R s m args below meth c Z.heap.size Q h k n pc Ls (.int y :: .int x :: st) := by
  obtain ⟨hx, hZ, hown, rfl, hml, hret, hnm, -⟩ := cx
  obtain ⟨d, rfl⟩ := d
  intro T locs cells slots X N eT hk hn
  obtain ⟨s₂, o, st2, r⟩ := H T locs cells slots X N eT hk hn
  exact ⟨s₂, o, Jvm.Free.XS.ixor X.here hx rfl d rfl st2, r⟩
theorem g_lxor {kx nx : Nat} (cx : Cx Z p s m meth c R kx nx own nm code maxL ret) {x y : Int64} (d : Dc code pc .lxor 1 pc') (H : G p l e R s m args below meth c Z.heap.size Q h k n pc' Ls (.long (x ^^^ y) :: st)) : G p l e R s m args below meth c Z.heap.size Q h k n pc Ls (.long y :: .long x :: st) := by
  obtain ⟨hx, hZ, hown, rfl, hml, hret, hnm, -⟩ := cx
  obtain ⟨d, rfl⟩ := d
  intro T locs cells slots X N eT hk hn
  obtain ⟨s₂, o, st2, r⟩ := H T locs cells slots X N eT hk hn
  exact ⟨s₂, o, Jvm.Free.XS.lxor X.here hx rfl d rfl st2, r⟩
theorem g_ishl {kx nx : Nat} (cx : Cx Z p s m meth c R kx nx own nm code maxL ret) {x : Int32} {y : Int32} (d : Dc code pc .ishl 1 pc') (H : G p l e R s m args below meth c Z.heap.size Q h k n pc' Ls (.int (x <<< (y &&& 31)) :: st)) : G p l e R s m args below meth c Z.heap.size Q h k n pc Ls (.int y :: .int x :: st) := by
  obtain ⟨hx, hZ, hown, rfl, hml, hret, hnm, -⟩ := cx
  obtain ⟨d, rfl⟩ := d
  intro T locs cells slots X N eT hk hn
  obtain ⟨s₂, o, st2, r⟩ := H T locs cells slots X N eT hk hn
  exact ⟨s₂, o, Jvm.Free.XS.ishl X.here hx rfl d rfl st2, r⟩
theorem g_ishr {kx nx : Nat} (cx : Cx Z p s m meth c R kx nx own nm code maxL ret) {x : Int32} {y : Int32} (d : Dc code pc .ishr 1 pc') (H : G p l e R s m args below meth c Z.heap.size Q h k n pc' Ls (.int (x >>> (y &&& 31)) :: st)) : G p l e R s m args below meth c Z.heap.size Q h k n pc Ls (.int y :: .int x :: st) := by
  obtain ⟨hx, hZ, hown, rfl, hml, hret, hnm, -⟩ := cx
  obtain ⟨d, rfl⟩ := d
  intro T locs cells slots X N eT hk hn
  obtain ⟨s₂, o, st2, r⟩ := H T locs cells slots X N eT hk hn
  exact ⟨s₂, o, Jvm.Free.XS.ishr X.here hx rfl d rfl st2, r⟩
theorem g_iushr {kx nx : Nat} (cx : Cx Z p s m meth c R kx nx own nm code maxL ret) {x : Int32} {y : Int32} (d : Dc code pc .iushr 1 pc') (H : G p l e R s m args below meth c Z.heap.size Q h k n pc' Ls (.int ((x.toUInt32 >>> (y &&& 31).toUInt32).toInt32) :: st)) : G p l e R s m args below meth c Z.heap.size Q h k n pc Ls (.int y :: .int x :: st) := by
  obtain ⟨hx, hZ, hown, rfl, hml, hret, hnm, -⟩ := cx
  obtain ⟨d, rfl⟩ := d
  intro T locs cells slots X N eT hk hn
  obtain ⟨s₂, o, st2, r⟩ := H T locs cells slots X N eT hk hn
  exact ⟨s₂, o, Jvm.Free.XS.iushr X.here hx rfl d rfl st2, r⟩
theorem g_lshl {kx nx : Nat} (cx : Cx Z p s m meth c R kx nx own nm code maxL ret) {x : Int64} {y : Int32} (d : Dc code pc .lshl 1 pc') (H : G p l e R s m args below meth c Z.heap.size Q h k n pc' Ls (.long (x <<< (y &&& 0x3f).toInt64) :: st)) : G p l e R s m args below meth c Z.heap.size Q h k n pc Ls (.int y :: .long x :: st) := by
  obtain ⟨hx, hZ, hown, rfl, hml, hret, hnm, -⟩ := cx
  obtain ⟨d, rfl⟩ := d
  intro T locs cells slots X N eT hk hn
  obtain ⟨s₂, o, st2, r⟩ := H T locs cells slots X N eT hk hn
  exact ⟨s₂, o, Jvm.Free.XS.lshl X.here hx rfl d rfl st2, r⟩
theorem g_lshr {kx nx : Nat} (cx : Cx Z p s m meth c R kx nx own nm code maxL ret) {x : Int64} {y : Int32} (d : Dc code pc .lshr 1 pc') (H : G p l e R s m args below meth c Z.heap.size Q h k n pc' Ls (.long (x >>> (y &&& 0x3f).toInt64) :: st)) : G p l e R s m args below meth c Z.heap.size Q h k n pc Ls (.int y :: .long x :: st) := by
  obtain ⟨hx, hZ, hown, rfl, hml, hret, hnm, -⟩ := cx
  obtain ⟨d, rfl⟩ := d
  intro T locs cells slots X N eT hk hn
  obtain ⟨s₂, o, st2, r⟩ := H T locs cells slots X N eT hk hn
  exact ⟨s₂, o, Jvm.Free.XS.lshr X.here hx rfl d rfl st2, r⟩
theorem g_lushr {kx nx : Nat} (cx : Cx Z p s m meth c R kx nx own nm code maxL ret) {x : Int64} {y : Int32} (d : Dc code pc .lushr 1 pc') (H : G p l e R s m args below meth c Z.heap.size Q h k n pc' Ls (.long ((x.toUInt64 >>> (y &&& 0x3f).toInt64.toUInt64).toInt64) :: st)) : G p l e R s m args below meth c Z.heap.size Q h k n pc Ls (.int y :: .long x :: st) := by
  obtain ⟨hx, hZ, hown, rfl, hml, hret, hnm, -⟩ := cx
  obtain ⟨d, rfl⟩ := d
  intro T locs cells slots X N eT hk hn
  obtain ⟨s₂, o, st2, r⟩ := H T locs cells slots X N eT hk hn
  exact ⟨s₂, o, Jvm.Free.XS.lushr X.here hx rfl d rfl st2, r⟩
theorem g_ineg {kx nx : Nat} (cx : Cx Z p s m meth c R kx nx own nm code maxL ret) {x : Int32} (d : Dc code pc .ineg 1 pc') (H : G p l e R s m args below meth c Z.heap.size Q h k n pc' Ls (.int (-x) :: st)) : G p l e R s m args below meth c Z.heap.size Q h k n pc Ls (.int x :: st) := by
  obtain ⟨hx, hZ, hown, rfl, hml, hret, hnm, -⟩ := cx
  obtain ⟨d, rfl⟩ := d
  intro T locs cells slots X N eT hk hn
  obtain ⟨s₂, o, st2, r⟩ := H T locs cells slots X N eT hk hn
  exact ⟨s₂, o, Jvm.Free.XS.ineg X.here hx rfl d rfl st2, r⟩
theorem g_lneg {kx nx : Nat} (cx : Cx Z p s m meth c R kx nx own nm code maxL ret) {x : Int64} (d : Dc code pc .lneg 1 pc') (H : G p l e R s m args below meth c Z.heap.size Q h k n pc' Ls (.long (-x) :: st)) : G p l e R s m args below meth c Z.heap.size Q h k n pc Ls (.long x :: st) := by
  obtain ⟨hx, hZ, hown, rfl, hml, hret, hnm, -⟩ := cx
  obtain ⟨d, rfl⟩ := d
  intro T locs cells slots X N eT hk hn
  obtain ⟨s₂, o, st2, r⟩ := H T locs cells slots X N eT hk hn
  exact ⟨s₂, o, Jvm.Free.XS.lneg X.here hx rfl d rfl st2, r⟩
theorem g_i2l {kx nx : Nat} (cx : Cx Z p s m meth c R kx nx own nm code maxL ret) {x : Int32} (d : Dc code pc .i2l 1 pc') (H : G p l e R s m args below meth c Z.heap.size Q h k n pc' Ls (.long (x.toInt64) :: st)) : G p l e R s m args below meth c Z.heap.size Q h k n pc Ls (.int x :: st) := by
  obtain ⟨hx, hZ, hown, rfl, hml, hret, hnm, -⟩ := cx
  obtain ⟨d, rfl⟩ := d
  intro T locs cells slots X N eT hk hn
  obtain ⟨s₂, o, st2, r⟩ := H T locs cells slots X N eT hk hn
  exact ⟨s₂, o, Jvm.Free.XS.i2l X.here hx rfl d rfl st2, r⟩
theorem g_l2i {kx nx : Nat} (cx : Cx Z p s m meth c R kx nx own nm code maxL ret) {x : Int64} (d : Dc code pc .l2i 1 pc') (H : G p l e R s m args below meth c Z.heap.size Q h k n pc' Ls (.int (x.toInt32) :: st)) : G p l e R s m args below meth c Z.heap.size Q h k n pc Ls (.long x :: st) := by
  obtain ⟨hx, hZ, hown, rfl, hml, hret, hnm, -⟩ := cx
  obtain ⟨d, rfl⟩ := d
  intro T locs cells slots X N eT hk hn
  obtain ⟨s₂, o, st2, r⟩ := H T locs cells slots X N eT hk hn
  exact ⟨s₂, o, Jvm.Free.XS.l2i X.here hx rfl d rfl st2, r⟩
theorem g_i2b {kx nx : Nat} (cx : Cx Z p s m meth c R kx nx own nm code maxL ret) {x : Int32} (d : Dc code pc .i2b 1 pc') (H : G p l e R s m args below meth c Z.heap.size Q h k n pc' Ls (.int (x.toInt8.toInt32) :: st)) : G p l e R s m args below meth c Z.heap.size Q h k n pc Ls (.int x :: st) := by
  obtain ⟨hx, hZ, hown, rfl, hml, hret, hnm, -⟩ := cx
  obtain ⟨d, rfl⟩ := d
  intro T locs cells slots X N eT hk hn
  obtain ⟨s₂, o, st2, r⟩ := H T locs cells slots X N eT hk hn
  exact ⟨s₂, o, Jvm.Free.XS.i2b X.here hx rfl d rfl st2, r⟩
theorem g_i2s {kx nx : Nat} (cx : Cx Z p s m meth c R kx nx own nm code maxL ret) {x : Int32} (d : Dc code pc .i2s 1 pc') (H : G p l e R s m args below meth c Z.heap.size Q h k n pc' Ls (.int (x.toInt16.toInt32) :: st)) : G p l e R s m args below meth c Z.heap.size Q h k n pc Ls (.int x :: st) := by
  obtain ⟨hx, hZ, hown, rfl, hml, hret, hnm, -⟩ := cx
  obtain ⟨d, rfl⟩ := d
  intro T locs cells slots X N eT hk hn
  obtain ⟨s₂, o, st2, r⟩ := H T locs cells slots X N eT hk hn
  exact ⟨s₂, o, Jvm.Free.XS.i2s X.here hx rfl d rfl st2, r⟩
theorem g_i2c {kx nx : Nat} (cx : Cx Z p s m meth c R kx nx own nm code maxL ret) {x : Int32} (d : Dc code pc .i2c 1 pc') (H : G p l e R s m args below meth c Z.heap.size Q h k n pc' Ls (.int (x.toUInt32.toUInt16.toUInt32.toInt32) :: st)) : G p l e R s m args below meth c Z.heap.size Q h k n pc Ls (.int x :: st) := by
  obtain ⟨hx, hZ, hown, rfl, hml, hret, hnm, -⟩ := cx
  obtain ⟨d, rfl⟩ := d
  intro T locs cells slots X N eT hk hn
  obtain ⟨s₂, o, st2, r⟩ := H T locs cells slots X N eT hk hn
  exact ⟨s₂, o, Jvm.Free.XS.i2c X.here hx rfl d rfl st2, r⟩
theorem g_idiv {kx nx : Nat} (cx : Cx Z p s m meth c R kx nx own nm code maxL ret) {x y : Int32} (d : Dc code pc .idiv 1 pc') (hy : y ≠ 0) (H : G p l e R s m args below meth c Z.heap.size Q h k n pc' Ls (.int (x / y) :: st)) : G p l e R s m args below meth c Z.heap.size Q h k n pc Ls (.int y :: .int x :: st) := by
  obtain ⟨hx, hZ, hown, rfl, hml, hret, hnm, -⟩ := cx
  obtain ⟨d, rfl⟩ := d
  intro T locs cells slots X N eT hk hn
  obtain ⟨s₂, o, st2, r⟩ := H T locs cells slots X N eT hk hn
  exact ⟨s₂, o, Jvm.Free.XS.idiv X.here hx rfl d rfl hy st2, r⟩
theorem g_ldiv {kx nx : Nat} (cx : Cx Z p s m meth c R kx nx own nm code maxL ret) {x y : Int64} (d : Dc code pc .ldiv 1 pc') (hy : y ≠ 0) (H : G p l e R s m args below meth c Z.heap.size Q h k n pc' Ls (.long (x / y) :: st)) : G p l e R s m args below meth c Z.heap.size Q h k n pc Ls (.long y :: .long x :: st) := by
  obtain ⟨hx, hZ, hown, rfl, hml, hret, hnm, -⟩ := cx
  obtain ⟨d, rfl⟩ := d
  intro T locs cells slots X N eT hk hn
  obtain ⟨s₂, o, st2, r⟩ := H T locs cells slots X N eT hk hn
  exact ⟨s₂, o, Jvm.Free.XS.ldiv X.here hx rfl d rfl hy st2, r⟩
theorem g_irem {kx nx : Nat} (cx : Cx Z p s m meth c R kx nx own nm code maxL ret) {x y : Int32} (d : Dc code pc .irem 1 pc') (hy : y ≠ 0) (H : G p l e R s m args below meth c Z.heap.size Q h k n pc' Ls (.int (x % y) :: st)) : G p l e R s m args below meth c Z.heap.size Q h k n pc Ls (.int y :: .int x :: st) := by
  obtain ⟨hx, hZ, hown, rfl, hml, hret, hnm, -⟩ := cx
  obtain ⟨d, rfl⟩ := d
  intro T locs cells slots X N eT hk hn
  obtain ⟨s₂, o, st2, r⟩ := H T locs cells slots X N eT hk hn
  exact ⟨s₂, o, Jvm.Free.XS.irem X.here hx rfl d rfl hy (by rw [irem_eq_mod]; exact st2), r⟩
theorem g_lrem {kx nx : Nat} (cx : Cx Z p s m meth c R kx nx own nm code maxL ret) {x y : Int64} (d : Dc code pc .lrem 1 pc') (hy : y ≠ 0) (H : G p l e R s m args below meth c Z.heap.size Q h k n pc' Ls (.long (x % y) :: st)) : G p l e R s m args below meth c Z.heap.size Q h k n pc Ls (.long y :: .long x :: st) := by
  obtain ⟨hx, hZ, hown, rfl, hml, hret, hnm, -⟩ := cx
  obtain ⟨d, rfl⟩ := d
  intro T locs cells slots X N eT hk hn
  obtain ⟨s₂, o, st2, r⟩ := H T locs cells slots X N eT hk hn
  exact ⟨s₂, o, Jvm.Free.XS.lrem X.here hx rfl d rfl hy (by rw [lrem_mod]; exact st2), r⟩
theorem g_iinc {kx nx : Nat} (cx : Cx Z p s m meth c R kx nx own nm code maxL ret) {i : Nat} {z : Int} {x v : Int32} {Ls' : Array Slot} (d : Dc code pc (.iinc i z) 3 pc') (hl : Ls[i]? = some (.val (.int x))) (hv : Int32.ofInt z = v) (hl' : storeLocals Ls i (.int (x + v)) = some Ls') (H : G p l e R s m args below meth c Z.heap.size Q h k n pc' Ls' st) : G p l e R s m args below meth c Z.heap.size Q h k n pc Ls st := by
  obtain ⟨hx, hZ, hown, rfl, hml, hret, hnm, -⟩ := cx
  obtain ⟨d, rfl⟩ := d
  intro T locs cells slots X N eT hk hn
  obtain ⟨s₂, o, st2, r⟩ := H T locs cells slots X N eT hk hn
  exact ⟨s₂, o, Jvm.Free.XS.iinc X.here hx rfl d hl (by rw [hv]; exact hl') st2, r⟩
theorem g_dup {kx nx : Nat} (cx : Cx Z p s m meth c R kx nx own nm code maxL ret) {v : Value} (d : Dc code pc .dup 1 pc') (hc : v.category = 1) (H : G p l e R s m args below meth c Z.heap.size Q h k n pc' Ls (v :: v :: st)) : G p l e R s m args below meth c Z.heap.size Q h k n pc Ls (v :: st) := by
  obtain ⟨hx, hZ, hown, rfl, hml, hret, hnm, -⟩ := cx
  obtain ⟨d, rfl⟩ := d
  intro T locs cells slots X N eT hk hn
  obtain ⟨s₂, o, st2, r⟩ := H T locs cells slots X N eT hk hn
  exact ⟨s₂, o, Jvm.Free.XS.dup X.here hx rfl d rfl hc st2, r⟩
theorem g_pop {kx nx : Nat} (cx : Cx Z p s m meth c R kx nx own nm code maxL ret) {v : Value} (d : Dc code pc .pop 1 pc') (hc : v.category = 1) (H : G p l e R s m args below meth c Z.heap.size Q h k n pc' Ls st) : G p l e R s m args below meth c Z.heap.size Q h k n pc Ls (v :: st) := by
  obtain ⟨hx, hZ, hown, rfl, hml, hret, hnm, -⟩ := cx
  obtain ⟨d, rfl⟩ := d
  intro T locs cells slots X N eT hk hn
  obtain ⟨s₂, o, st2, r⟩ := H T locs cells slots X N eT hk hn
  exact ⟨s₂, o, Jvm.Free.XS.pop X.here hx rfl d rfl hc st2, r⟩
theorem g_dup_x1 {kx nx : Nat} (cx : Cx Z p s m meth c R kx nx own nm code maxL ret) {v w : Value} (d : Dc code pc .dup_x1 1 pc') (hc : v.category = 1) (hc2 : w.category = 1) (H : G p l e R s m args below meth c Z.heap.size Q h k n pc' Ls (v :: w :: v :: st)) : G p l e R s m args below meth c Z.heap.size Q h k n pc Ls (v :: w :: st) := by
  obtain ⟨hx, hZ, hown, rfl, hml, hret, hnm, -⟩ := cx
  obtain ⟨d, rfl⟩ := d
  intro T locs cells slots X N eT hk hn
  obtain ⟨s₂, o, st2, r⟩ := H T locs cells slots X N eT hk hn
  exact ⟨s₂, o, Jvm.Free.XS.dupX1 X.here hx rfl d rfl hc hc2 st2, r⟩
theorem g_dup2 {kx nx : Nat} (cx : Cx Z p s m meth c R kx nx own nm code maxL ret) {v w : Value} (d : Dc code pc .dup2 1 pc') (hc : v.category = 1) (hc2 : w.category = 1) (H : G p l e R s m args below meth c Z.heap.size Q h k n pc' Ls (v :: w :: v :: w :: st)) : G p l e R s m args below meth c Z.heap.size Q h k n pc Ls (v :: w :: st) := by
  obtain ⟨hx, hZ, hown, rfl, hml, hret, hnm, -⟩ := cx
  obtain ⟨d, rfl⟩ := d
  intro T locs cells slots X N eT hk hn
  obtain ⟨s₂, o, st2, r⟩ := H T locs cells slots X N eT hk hn
  exact ⟨s₂, o, Jvm.Free.XT.dup2 X.here hx rfl d rfl hc hc2 st2, r⟩
theorem g_dup2L {kx nx : Nat} (cx : Cx Z p s m meth c R kx nx own nm code maxL ret) {v : Int64} (d : Dc code pc .dup2 1 pc') (H : G p l e R s m args below meth c Z.heap.size Q h k n pc' Ls (.long v :: .long v :: st)) : G p l e R s m args below meth c Z.heap.size Q h k n pc Ls (.long v :: st) := by
  obtain ⟨hx, hZ, hown, rfl, hml, hret, hnm, -⟩ := cx
  obtain ⟨d, rfl⟩ := d
  intro T locs cells slots X N eT hk hn
  obtain ⟨s₂, o, st2, r⟩ := H T locs cells slots X N eT hk hn
  exact ⟨s₂, o, Jvm.Free.XT.dup2L X.here hx rfl d rfl st2, r⟩
theorem g_goto {kx nx : Nat} (cx : Cx Z p s m meth c R kx nx own nm code maxL ret) (d : Bi code pc Instr.goto pcY pcN) (H : G p l e R s m args below meth c Z.heap.size Q h k n pcY Ls st) : G p l e R s m args below meth c Z.heap.size Q h k n pc Ls st := by
  obtain ⟨hx, hZ, hown, rfl, hml, hret, hnm, -⟩ := cx
  obtain ⟨o', d, ho, rfl, rfl⟩ := d
  intro T locs cells slots X N eT hk hn
  obtain ⟨s₂, o, st2, r⟩ := H T locs cells slots X N eT hk hn
  exact ⟨s₂, o, Jvm.Free.XS.goto X.here hx rfl (pc0 := pc) rfl d ho rfl st2, r⟩
theorem g_ifB {kx nx : Nat} (cx : Cx Z p s m meth c R kx nx own nm code maxL ret) {cd : ClassFile.Cond} {x : Int32} (d : Bi code pc (Instr.ifCond cd) pcY pcN) (HY : if_icmp.holds cd x 0 = true → G p l e R s m args below meth c Z.heap.size Q h k n pcY Ls st) (HN : if_icmp.holds cd x 0 = false → G p l e R s m args below meth c Z.heap.size Q h k n pcN Ls st) : G p l e R s m args below meth c Z.heap.size Q h k n pc Ls (.int x :: st) := by
  obtain ⟨hx, hZ, hown, rfl, hml, hret, hnm, -⟩ := cx
  obtain ⟨o', d, ho, rfl, rfl⟩ := d
  intro T locs cells slots X N eT hk hn
  cases hc : if_icmp.holds cd x 0
  · obtain ⟨s₂, o, st2, r⟩ := HN hc T locs cells slots X N eT hk hn
    exact ⟨s₂, o, Jvm.Free.XS.ifNo X.here hx rfl d rfl ((if0 _ _).trans hc) st2, r⟩
  · obtain ⟨s₂, o, st2, r⟩ := HY hc T locs cells slots X N eT hk hn
    exact ⟨s₂, o, Jvm.Free.XS.ifYes X.here hx rfl (pc0 := pc) rfl d rfl ((if0 _ _).trans hc) ho rfl st2, r⟩
theorem g_icmpB {kx nx : Nat} (cx : Cx Z p s m meth c R kx nx own nm code maxL ret) {cd : ClassFile.Cond} {x y : Int32} (d : Bi code pc (Instr.if_icmp cd) pcY pcN) (HY : if_icmp.holds cd x y = true → G p l e R s m args below meth c Z.heap.size Q h k n pcY Ls st) (HN : if_icmp.holds cd x y = false → G p l e R s m args below meth c Z.heap.size Q h k n pcN Ls st) : G p l e R s m args below meth c Z.heap.size Q h k n pc Ls (.int y :: .int x :: st) := by
  obtain ⟨hx, hZ, hown, rfl, hml, hret, hnm, -⟩ := cx
  obtain ⟨o', d, ho, rfl, rfl⟩ := d
  intro T locs cells slots X N eT hk hn
  cases hc : if_icmp.holds cd x y
  · obtain ⟨s₂, o, st2, r⟩ := HN hc T locs cells slots X N eT hk hn
    exact ⟨s₂, o, Jvm.Free.XS.icmpNo X.here hx rfl d rfl hc st2, r⟩
  · obtain ⟨s₂, o, st2, r⟩ := HY hc T locs cells slots X N eT hk hn
    exact ⟨s₂, o, Jvm.Free.XS.icmpYes X.here hx rfl (pc0 := pc) rfl d rfl hc ho rfl st2, r⟩
theorem h_eq {x y : Int32} : if_icmp.holds .eq x y = decide (x = y) := by by_cases h : x = y <;> simp [if_icmp.holds, h]
theorem h_ne {x y : Int32} : if_icmp.holds .ne x y = !decide (x = y) := by by_cases h : x = y <;> simp [if_icmp.holds, h]
theorem h_lt {x y : Int32} : if_icmp.holds .lt x y = decide (x < y) := by by_cases h : x < y <;> simp [if_icmp.holds, h]
theorem h_ge {x y : Int32} : if_icmp.holds .ge x y = !decide (x < y) := by by_cases h : x < y <;> simp [if_icmp.holds, h, Int32.not_le.mpr, Int32.not_lt.mp]
theorem h_gt {x y : Int32} : if_icmp.holds .gt x y = decide (y < x) := by by_cases h : y < x <;> simp [if_icmp.holds, h]
theorem h_le {x y : Int32} : if_icmp.holds .le x y = !decide (y < x) := by by_cases h : y < x <;> simp [if_icmp.holds, h, Int32.not_le.mpr, Int32.not_lt.mp]
theorem g_if_eq {kx nx : Nat} (cx : Cx Z p s m meth c R kx nx own nm code maxL ret) {x : Int32} (d : Bi code pc (Instr.ifCond .eq) pcY pcN) (HY : x = 0 → G p l e R s m args below meth c Z.heap.size Q h k n pcY Ls st) (HN : ¬ x = 0 → G p l e R s m args below meth c Z.heap.size Q h k n pcN Ls st) : G p l e R s m args below meth c Z.heap.size Q h k n pc Ls (.int x :: st) :=
  g_ifB cx d (fun q => HY (by rw [h_eq] at q; simpa using q)) (fun q => HN (by rw [h_eq] at q; simpa using q))
theorem g_icmp_eq {kx nx : Nat} (cx : Cx Z p s m meth c R kx nx own nm code maxL ret) {x y : Int32} (d : Bi code pc (Instr.if_icmp .eq) pcY pcN) (HY : x = y → G p l e R s m args below meth c Z.heap.size Q h k n pcY Ls st) (HN : ¬ x = y → G p l e R s m args below meth c Z.heap.size Q h k n pcN Ls st) : G p l e R s m args below meth c Z.heap.size Q h k n pc Ls (.int y :: .int x :: st) :=
  g_icmpB cx d (fun q => HY (by rw [h_eq] at q; simpa using q)) (fun q => HN (by rw [h_eq] at q; simpa using q))
theorem g_if_ne {kx nx : Nat} (cx : Cx Z p s m meth c R kx nx own nm code maxL ret) {x : Int32} (d : Bi code pc (Instr.ifCond .ne) pcY pcN) (HY : ¬ x = 0 → G p l e R s m args below meth c Z.heap.size Q h k n pcY Ls st) (HN : x = 0 → G p l e R s m args below meth c Z.heap.size Q h k n pcN Ls st) : G p l e R s m args below meth c Z.heap.size Q h k n pc Ls (.int x :: st) :=
  g_ifB cx d (fun q => HY (by rw [h_ne] at q; simpa using q)) (fun q => HN (by rw [h_ne] at q; simpa using q))
theorem g_icmp_ne {kx nx : Nat} (cx : Cx Z p s m meth c R kx nx own nm code maxL ret) {x y : Int32} (d : Bi code pc (Instr.if_icmp .ne) pcY pcN) (HY : ¬ x = y → G p l e R s m args below meth c Z.heap.size Q h k n pcY Ls st) (HN : x = y → G p l e R s m args below meth c Z.heap.size Q h k n pcN Ls st) : G p l e R s m args below meth c Z.heap.size Q h k n pc Ls (.int y :: .int x :: st) :=
  g_icmpB cx d (fun q => HY (by rw [h_ne] at q; simpa using q)) (fun q => HN (by rw [h_ne] at q; simpa using q))
theorem g_if_lt {kx nx : Nat} (cx : Cx Z p s m meth c R kx nx own nm code maxL ret) {x : Int32} (d : Bi code pc (Instr.ifCond .lt) pcY pcN) (HY : x < 0 → G p l e R s m args below meth c Z.heap.size Q h k n pcY Ls st) (HN : ¬ x < 0 → G p l e R s m args below meth c Z.heap.size Q h k n pcN Ls st) : G p l e R s m args below meth c Z.heap.size Q h k n pc Ls (.int x :: st) :=
  g_ifB cx d (fun q => HY (by rw [h_lt] at q; simpa using q)) (fun q => HN (by rw [h_lt] at q; simpa using q))
theorem g_icmp_lt {kx nx : Nat} (cx : Cx Z p s m meth c R kx nx own nm code maxL ret) {x y : Int32} (d : Bi code pc (Instr.if_icmp .lt) pcY pcN) (HY : x < y → G p l e R s m args below meth c Z.heap.size Q h k n pcY Ls st) (HN : ¬ x < y → G p l e R s m args below meth c Z.heap.size Q h k n pcN Ls st) : G p l e R s m args below meth c Z.heap.size Q h k n pc Ls (.int y :: .int x :: st) :=
  g_icmpB cx d (fun q => HY (by rw [h_lt] at q; simpa using q)) (fun q => HN (by rw [h_lt] at q; simpa using q))
theorem g_if_ge {kx nx : Nat} (cx : Cx Z p s m meth c R kx nx own nm code maxL ret) {x : Int32} (d : Bi code pc (Instr.ifCond .ge) pcY pcN) (HY : ¬ x < 0 → G p l e R s m args below meth c Z.heap.size Q h k n pcY Ls st) (HN : x < 0 → G p l e R s m args below meth c Z.heap.size Q h k n pcN Ls st) : G p l e R s m args below meth c Z.heap.size Q h k n pc Ls (.int x :: st) :=
  g_ifB cx d (fun q => HY (by rw [h_ge] at q; simpa using q)) (fun q => HN (by rw [h_ge] at q; simpa using q))
theorem g_icmp_ge {kx nx : Nat} (cx : Cx Z p s m meth c R kx nx own nm code maxL ret) {x y : Int32} (d : Bi code pc (Instr.if_icmp .ge) pcY pcN) (HY : ¬ x < y → G p l e R s m args below meth c Z.heap.size Q h k n pcY Ls st) (HN : x < y → G p l e R s m args below meth c Z.heap.size Q h k n pcN Ls st) : G p l e R s m args below meth c Z.heap.size Q h k n pc Ls (.int y :: .int x :: st) :=
  g_icmpB cx d (fun q => HY (by rw [h_ge] at q; simpa using q)) (fun q => HN (by rw [h_ge] at q; simpa using q))
theorem g_if_gt {kx nx : Nat} (cx : Cx Z p s m meth c R kx nx own nm code maxL ret) {x : Int32} (d : Bi code pc (Instr.ifCond .gt) pcY pcN) (HY : 0 < x → G p l e R s m args below meth c Z.heap.size Q h k n pcY Ls st) (HN : ¬ 0 < x → G p l e R s m args below meth c Z.heap.size Q h k n pcN Ls st) : G p l e R s m args below meth c Z.heap.size Q h k n pc Ls (.int x :: st) :=
  g_ifB cx d (fun q => HY (by rw [h_gt] at q; simpa using q)) (fun q => HN (by rw [h_gt] at q; simpa using q))
theorem g_icmp_gt {kx nx : Nat} (cx : Cx Z p s m meth c R kx nx own nm code maxL ret) {x y : Int32} (d : Bi code pc (Instr.if_icmp .gt) pcY pcN) (HY : y < x → G p l e R s m args below meth c Z.heap.size Q h k n pcY Ls st) (HN : ¬ y < x → G p l e R s m args below meth c Z.heap.size Q h k n pcN Ls st) : G p l e R s m args below meth c Z.heap.size Q h k n pc Ls (.int y :: .int x :: st) :=
  g_icmpB cx d (fun q => HY (by rw [h_gt] at q; simpa using q)) (fun q => HN (by rw [h_gt] at q; simpa using q))
theorem g_if_le {kx nx : Nat} (cx : Cx Z p s m meth c R kx nx own nm code maxL ret) {x : Int32} (d : Bi code pc (Instr.ifCond .le) pcY pcN) (HY : ¬ 0 < x → G p l e R s m args below meth c Z.heap.size Q h k n pcY Ls st) (HN : 0 < x → G p l e R s m args below meth c Z.heap.size Q h k n pcN Ls st) : G p l e R s m args below meth c Z.heap.size Q h k n pc Ls (.int x :: st) :=
  g_ifB cx d (fun q => HY (by rw [h_le] at q; simpa using q)) (fun q => HN (by rw [h_le] at q; simpa using q))
theorem g_icmp_le {kx nx : Nat} (cx : Cx Z p s m meth c R kx nx own nm code maxL ret) {x y : Int32} (d : Bi code pc (Instr.if_icmp .le) pcY pcN) (HY : ¬ y < x → G p l e R s m args below meth c Z.heap.size Q h k n pcY Ls st) (HN : y < x → G p l e R s m args below meth c Z.heap.size Q h k n pcN Ls st) : G p l e R s m args below meth c Z.heap.size Q h k n pc Ls (.int y :: .int x :: st) :=
  g_icmpB cx d (fun q => HY (by rw [h_le] at q; simpa using q)) (fun q => HN (by rw [h_le] at q; simpa using q))
theorem g_lcmp {kx nx : Nat} (cx : Cx Z p s m meth c R kx nx own nm code maxL ret) {x y : Int64} (d : Dc code pc .lcmp 1 pc') (H : G p l e R s m args below meth c Z.heap.size Q h k n pc' Ls (.int (lcmpW x y) :: st)) : G p l e R s m args below meth c Z.heap.size Q h k n pc Ls (.long y :: .long x :: st) := by
  obtain ⟨hx, hZ, hown, rfl, hml, hret, hnm, -⟩ := cx
  obtain ⟨d, rfl⟩ := d
  intro T locs cells slots X N eT hk hn
  obtain ⟨s₂, o, st2, r⟩ := H T locs cells slots X N eT hk hn
  exact ⟨s₂, o, Jvm.Free.XS.lcmp X.here hx rfl d rfl st2, r⟩
theorem g_lif_eq {kx nx : Nat} (cx : Cx Z p s m meth c R kx nx own nm code maxL ret) {x y : Int64} (d0 : Dc code pc .lcmp 1 pc') (d : Bi code pc' (Instr.ifCond .eq) pcY pcN) (HY : x = y → G p l e R s m args below meth c Z.heap.size Q h k n pcY Ls st) (HN : ¬ x = y → G p l e R s m args below meth c Z.heap.size Q h k n pcN Ls st) : G p l e R s m args below meth c Z.heap.size Q h k n pc Ls (.long y :: .long x :: st) :=
  g_lcmp cx d0 (g_if_eq cx d (fun q => HY ((lw_eq x y).mp q)) (fun q => HN (fun z => q ((lw_eq x y).mpr z))))
theorem g_lif_ne {kx nx : Nat} (cx : Cx Z p s m meth c R kx nx own nm code maxL ret) {x y : Int64} (d0 : Dc code pc .lcmp 1 pc') (d : Bi code pc' (Instr.ifCond .ne) pcY pcN) (HY : ¬ x = y → G p l e R s m args below meth c Z.heap.size Q h k n pcY Ls st) (HN : x = y → G p l e R s m args below meth c Z.heap.size Q h k n pcN Ls st) : G p l e R s m args below meth c Z.heap.size Q h k n pc Ls (.long y :: .long x :: st) :=
  g_lcmp cx d0 (g_if_ne cx d (fun q => HY (fun z => q ((lw_eq x y).mpr z))) (fun q => HN ((lw_eq x y).mp q)))
theorem g_lif_lt {kx nx : Nat} (cx : Cx Z p s m meth c R kx nx own nm code maxL ret) {x y : Int64} (d0 : Dc code pc .lcmp 1 pc') (d : Bi code pc' (Instr.ifCond .lt) pcY pcN) (HY : x < y → G p l e R s m args below meth c Z.heap.size Q h k n pcY Ls st) (HN : ¬ x < y → G p l e R s m args below meth c Z.heap.size Q h k n pcN Ls st) : G p l e R s m args below meth c Z.heap.size Q h k n pc Ls (.long y :: .long x :: st) :=
  g_lcmp cx d0 (g_if_lt cx d (fun q => HY ((lw_lt x y).mp q)) (fun q => HN (fun z => q ((lw_lt x y).mpr z))))
theorem g_lif_ge {kx nx : Nat} (cx : Cx Z p s m meth c R kx nx own nm code maxL ret) {x y : Int64} (d0 : Dc code pc .lcmp 1 pc') (d : Bi code pc' (Instr.ifCond .ge) pcY pcN) (HY : ¬ x < y → G p l e R s m args below meth c Z.heap.size Q h k n pcY Ls st) (HN : x < y → G p l e R s m args below meth c Z.heap.size Q h k n pcN Ls st) : G p l e R s m args below meth c Z.heap.size Q h k n pc Ls (.long y :: .long x :: st) :=
  g_lcmp cx d0 (g_if_ge cx d (fun q => HY (fun z => q ((lw_lt x y).mpr z))) (fun q => HN ((lw_lt x y).mp q)))
theorem g_lif_gt {kx nx : Nat} (cx : Cx Z p s m meth c R kx nx own nm code maxL ret) {x y : Int64} (d0 : Dc code pc .lcmp 1 pc') (d : Bi code pc' (Instr.ifCond .gt) pcY pcN) (HY : y < x → G p l e R s m args below meth c Z.heap.size Q h k n pcY Ls st) (HN : ¬ y < x → G p l e R s m args below meth c Z.heap.size Q h k n pcN Ls st) : G p l e R s m args below meth c Z.heap.size Q h k n pc Ls (.long y :: .long x :: st) :=
  g_lcmp cx d0 (g_if_gt cx d (fun q => HY ((lw_gt x y).mp q)) (fun q => HN (fun z => q ((lw_gt x y).mpr z))))
theorem g_lif_le {kx nx : Nat} (cx : Cx Z p s m meth c R kx nx own nm code maxL ret) {x y : Int64} (d0 : Dc code pc .lcmp 1 pc') (d : Bi code pc' (Instr.ifCond .le) pcY pcN) (HY : ¬ y < x → G p l e R s m args below meth c Z.heap.size Q h k n pcY Ls st) (HN : y < x → G p l e R s m args below meth c Z.heap.size Q h k n pcN Ls st) : G p l e R s m args below meth c Z.heap.size Q h k n pc Ls (.long y :: .long x :: st) :=
  g_lcmp cx d0 (g_if_le cx d (fun q => HY (fun z => q ((lw_gt x y).mpr z))) (fun q => HN ((lw_gt x y).mp q)))
theorem g_acmp {kx nx : Nat} (cx : Cx Z p s m meth c R kx nx own nm code maxL ret) {cd : ACond} {x y : Value} (h1 : x.isRef = true) (h2 : y.isRef = true) (d : Bi code pc (Instr.if_acmp cd) pcY pcN) (HY : x = y → G p l e R s m args below meth c Z.heap.size Q h k n (if acV cd true = true then pcY else pcN) Ls st) (HN : ¬ x = y → G p l e R s m args below meth c Z.heap.size Q h k n (if acV cd false = true then pcY else pcN) Ls st) : G p l e R s m args below meth c Z.heap.size Q h k n pc Ls (y :: x :: st) := by
  obtain ⟨hx, hZ, hown, rfl, hml, hret, hnm, -⟩ := cx
  obtain ⟨o', d, ho, rfl, rfl⟩ := d
  intro T locs cells slots X N eT hk hn
  by_cases hc : x = y
  · obtain ⟨s₂, o, st2, r⟩ := HY hc T locs cells slots X N eT hk hn
    exact ⟨s₂, o, Jvm.RoadKit.acmp (g := mkF m pc Ls (y :: x :: st)) X hx rfl h1 h2 (pc0 := pc) (same := true) rfl d rfl (decide_eq_true hc) ho rfl st2, r⟩
  · obtain ⟨s₂, o, st2, r⟩ := HN hc T locs cells slots X N eT hk hn
    exact ⟨s₂, o, Jvm.RoadKit.acmp (g := mkF m pc Ls (y :: x :: st)) X hx rfl h1 h2 (pc0 := pc) (same := false) rfl d rfl (decide_eq_false hc) ho rfl st2, r⟩
theorem g_acmp_eq {kx nx : Nat} (cx : Cx Z p s m meth c R kx nx own nm code maxL ret) {x y : Value} (h1 : x.isRef = true) (h2 : y.isRef = true) (d : Bi code pc (Instr.if_acmp .eq) pcY pcN) (HY : x = y → G p l e R s m args below meth c Z.heap.size Q h k n pcY Ls st) (HN : ¬ x = y → G p l e R s m args below meth c Z.heap.size Q h k n pcN Ls st) : G p l e R s m args below meth c Z.heap.size Q h k n pc Ls (y :: x :: st) := g_acmp cx h1 h2 d HY HN
theorem g_acmp_ne {kx nx : Nat} (cx : Cx Z p s m meth c R kx nx own nm code maxL ret) {x y : Value} (h1 : x.isRef = true) (h2 : y.isRef = true) (d : Bi code pc (Instr.if_acmp .ne) pcY pcN) (HY : ¬ x = y → G p l e R s m args below meth c Z.heap.size Q h k n pcY Ls st) (HN : x = y → G p l e R s m args below meth c Z.heap.size Q h k n pcN Ls st) : G p l e R s m args below meth c Z.heap.size Q h k n pc Ls (y :: x :: st) := g_acmp cx h1 h2 d HN HY
theorem g_ifnull_null {kx nx : Nat} (cx : Cx Z p s m meth c R kx nx own nm code maxL ret) (d : Bi code pc Instr.ifnull pcY pcN) (H : G p l e R s m args below meth c Z.heap.size Q h k n pcY Ls st) : G p l e R s m args below meth c Z.heap.size Q h k n pc Ls (.null :: st) := by
  obtain ⟨hx, hZ, hown, rfl, hml, hret, hnm, -⟩ := cx
  obtain ⟨o', d, ho, rfl, rfl⟩ := d
  intro T locs cells slots X N eT hk hn
  obtain ⟨s₂, o, st2, r⟩ := H T locs cells slots X N eT hk hn
  exact ⟨s₂, o, Jvm.Free.XS.ifnullYes X.here hx rfl (pc0 := pc) rfl d rfl ho rfl st2, r⟩
theorem g_ifnull_ref {kx nx : Nat} (cx : Cx Z p s m meth c R kx nx own nm code maxL ret) {a : Addr} (d : Bi code pc Instr.ifnull pcY pcN) (H : G p l e R s m args below meth c Z.heap.size Q h k n pcN Ls st) : G p l e R s m args below meth c Z.heap.size Q h k n pc Ls (.ref a :: st) := by
  obtain ⟨hx, hZ, hown, rfl, hml, hret, hnm, -⟩ := cx
  obtain ⟨o', d, ho, rfl, rfl⟩ := d
  intro T locs cells slots X N eT hk hn
  obtain ⟨s₂, o, st2, r⟩ := H T locs cells slots X N eT hk hn
  exact ⟨s₂, o, Jvm.Free.XS.ifnullNo X.here hx rfl d rfl st2, r⟩
theorem g_ifnonnull_ref {kx nx : Nat} (cx : Cx Z p s m meth c R kx nx own nm code maxL ret) {a : Addr} (d : Bi code pc Instr.ifnonnull pcY pcN) (H : G p l e R s m args below meth c Z.heap.size Q h k n pcY Ls st) : G p l e R s m args below meth c Z.heap.size Q h k n pc Ls (.ref a :: st) := by
  obtain ⟨hx, hZ, hown, rfl, hml, hret, hnm, -⟩ := cx
  obtain ⟨o', d, ho, rfl, rfl⟩ := d
  intro T locs cells slots X N eT hk hn
  obtain ⟨s₂, o, st2, r⟩ := H T locs cells slots X N eT hk hn
  exact ⟨s₂, o, Jvm.Free.XS.ifnonnullYes X.here hx rfl (pc0 := pc) rfl d rfl ho rfl st2, r⟩
theorem g_ifnonnull_null {kx nx : Nat} (cx : Cx Z p s m meth c R kx nx own nm code maxL ret) (d : Bi code pc Instr.ifnonnull pcY pcN) (H : G p l e R s m args below meth c Z.heap.size Q h k n pcN Ls st) : G p l e R s m args below meth c Z.heap.size Q h k n pc Ls (.null :: st) := by
  obtain ⟨hx, hZ, hown, rfl, hml, hret, hnm, -⟩ := cx
  obtain ⟨o', d, ho, rfl, rfl⟩ := d
  intro T locs cells slots X N eT hk hn
  obtain ⟨s₂, o, st2, r⟩ := H T locs cells slots X N eT hk hn
  exact ⟨s₂, o, Jvm.Free.XS.ifnonnullNo X.here hx rfl d rfl st2, r⟩
theorem g_ldcI {kx nx : Nat} (cx : Cx Z p s m meth c R kx nx own nm code maxL ret) {i : Nat} {v : Int32} (d : Dc code pc (.ldc i) 2 pc') (w : (Jvm.Cond.constant own i v).before a0 Z = true) (H : G p l e R s m args below meth c Z.heap.size Q h k n pc' Ls (.int v :: st)) : G p l e R s m args below meth c Z.heap.size Q h k n pc Ls st := by
  obtain ⟨hx, hZ, hown, rfl, hml, hret, hnm, -⟩ := cx
  obtain ⟨d, rfl⟩ := d
  intro T locs cells slots X N eT hk hn
  obtain ⟨s₂, o, st2, r⟩ := H T locs cells slots X N eT hk hn
  exact ⟨s₂, o, X.ldcInt hx hown (mvT hZ w) (g := mkF m pc Ls st) rfl d _ st2, r⟩
theorem g_ldcJ {kx nx : Nat} (cx : Cx Z p s m meth c R kx nx own nm code maxL ret) {i : Nat} {v : Int64} (d : Dc code pc (.ldc2_w i) 3 pc') (w : (Jvm.Cond.constantLong own i v).before a0 Z = true) (H : G p l e R s m args below meth c Z.heap.size Q h k n pc' Ls (.long v :: st)) : G p l e R s m args below meth c Z.heap.size Q h k n pc Ls st := by
  obtain ⟨hx, hZ, hown, rfl, hml, hret, hnm, -⟩ := cx
  obtain ⟨d, rfl⟩ := d
  intro T locs cells slots X N eT hk hn
  obtain ⟨s₂, o, st2, r⟩ := H T locs cells slots X N eT hk hn
  exact ⟨s₂, o, X.ldc2Long hx hown (mvT hZ w) (g := mkF m pc Ls st) rfl d _ st2, r⟩
theorem g_getF {kx nx : Nat} (cx : Cx Z p s m meth c R kx nx own nm code maxL ret) {R0 O f ds host : String} {i : Nat} {a : Addr} {v : Value} (d : Dc code pc (.getfield i) 3 pc') (w : (Jvm.Cond.fieldLink own i R0 f ds).before a0 Z = true ∨ (Jvm.Cond.fieldLinkNest own i R0 f ds host).before a0 Z = true) (via : Via Z R0 O f ds) (F : Fld Z h a O f ds v) (H : G p l e R s m args below meth c Z.heap.size Q h k n pc' Ls (v :: st)) : G p l e R s m args below meth c Z.heap.size Q h k n pc Ls (.ref a :: st) := by
  obtain ⟨hx, hZ, hown, rfl, hml, hret, hnm, -⟩ := cx
  obtain ⟨d, rfl⟩ := d
  intro T locs cells slots X N eT hk hn
  obtain ⟨T', X', e', stp⟩ := getF X hx hZ hown w via eT F (g := mkF m pc Ls (.ref a :: st)) rfl rfl d
  obtain ⟨s₂, o, st2, r⟩ := H T' locs cells slots X' N e' hk hn
  exact ⟨s₂, o, stp _ st2, r⟩
theorem g_getS {kx nx : Nat} (cx : Cx Z p s m meth c R kx nx own nm code maxL ret) {R0 O f ds host : String} {i : Nat} {v : Value} (d : Dc code pc (.getstatic i) 3 pc') (w : (Jvm.Cond.fieldLink own i R0 f ds).before a0 Z = true ∨ (Jvm.Cond.fieldLinkNest own i R0 f ds host).before a0 Z = true) (via : Via Z R0 O f ds) (F : Sta Z h O f ds v) (H : G p l e R s m args below meth c Z.heap.size Q h k n pc' Ls (v :: st)) : G p l e R s m args below meth c Z.heap.size Q h k n pc Ls st := by
  obtain ⟨hx, hZ, hown, rfl, hml, hret, hnm, -⟩ := cx
  obtain ⟨d, rfl⟩ := d
  intro T locs cells slots X N eT hk hn
  obtain ⟨T', X', e', stp⟩ := getS2 X hx hZ hown w via eT F (g := mkF m pc Ls st) rfl d
  obtain ⟨s₂, o, st2, r⟩ := H T' locs cells slots X' N e' hk hn
  exact ⟨s₂, o, stp _ st2, r⟩
theorem g_putF {kx nx : Nat} (cx : Cx Z p s m meth c R kx nx own nm code maxL ret) {R0 O f ds host C : String} {i kk : Nat} {ty : FieldType} {a : Addr} {v old : Value} (d : Dc code pc (.putfield i) 3 pc') (w : (Jvm.Cond.fieldLink own i R0 f ds).before a0 Z = true ∨ (Jvm.Cond.fieldLinkNest own i R0 f ds host).before a0 Z = true) (via : Via Z R0 O f ds) (F : Fld Z h a O f ds old) (E : Exa Z h a C)
    (L : (Jvm.Cond.lays C O f ds).before a0 Z = true ∨ ((Jvm.Cond.laysFinal C O f ds).before a0 Z = true ∧ own = O ∧ nm = "<init>")) (wi : (Jvm.Cond.instantiable C kk).before a0 Z = true) (hty : parseFieldDescriptor ds = some ty) (hnar : narrow ty v = v) (hfit : fits ty v = true) (g : Z.heap.size ≤ a)
    (H : ∀ h', Wr h h' a (Jvm.RoadKit.slotOf Z O f ds) v → G p l e R s m args below meth c Z.heap.size Q h' k n pc' Ls st) : G p l e R s m args below meth c Z.heap.size Q h k n pc Ls (v :: .ref a :: st) := by
  obtain ⟨hx, hZ, hown, rfl, hml, hret, rfl, -⟩ := cx
  obtain ⟨d, rfl⟩ := d
  intro T locs cells slots X N eT hk hn
  obtain ⟨T', h', X', e', W, stp⟩ := putF X hx hZ hown w via eT F E L wi hty hnar hfit (g := mkF m pc Ls (v :: .ref a :: st)) rfl rfl d
  obtain ⟨s₂, o, st2, r⟩ := H h' W T' _ cells slots X' (Fr.snoc X' N g) e' hk hn
  exact ⟨s₂, o, stp _ st2, r⟩
theorem g_putFN {kx nx : Nat} (cx : Cx Z p s m meth c R kx nx own nm code maxL ret) {R0 O f ds C : String} {i kk : Nat} {ty : FieldType} {a : Addr} {v v' old : Value} (d : Dc code pc (.putfield i) 3 pc') (w : (Jvm.Cond.fieldLink own i R0 f ds).before a0 Z = true) (via : Via Z R0 O f ds) (F : Fld Z h a O f ds old) (E : Exa Z h a C)
    (L : (Jvm.Cond.lays C O f ds).before a0 Z = true ∨ ((Jvm.Cond.laysFinal C O f ds).before a0 Z = true ∧ own = O ∧ nm = "<init>")) (wi : (Jvm.Cond.instantiable C kk).before a0 Z = true) (hty : parseFieldDescriptor ds = some ty) (hnar : narrow ty v = v') (hfit : fits ty v' = true) (g : Z.heap.size ≤ a)
    (H : ∀ h', Wr h h' a (Jvm.RoadKit.slotOf Z O f ds) v' → G p l e R s m args below meth c Z.heap.size Q h' k n pc' Ls st) : G p l e R s m args below meth c Z.heap.size Q h k n pc Ls (v :: .ref a :: st) := by
  obtain ⟨hx, hZ, hown, rfl, hml, hret, rfl, -⟩ := cx
  obtain ⟨d, rfl⟩ := d
  intro T locs cells slots X N eT hk hn
  obtain ⟨T', h', X', e', W, stp⟩ := putFN X hx hZ hown w via eT F E L wi hty hnar hfit (g := mkF m pc Ls (v :: .ref a :: st)) rfl rfl d
  obtain ⟨s₂, o, st2, r⟩ := H h' W T' _ cells slots X' (Fr.snoc X' N g) e' hk hn
  exact ⟨s₂, o, stp _ st2, r⟩
theorem g_new {kx nx : Nat} (cx : Cx Z p s m meth c R kx nx own nm code maxL ret) {C : String} {i sl : Nat} {k' n' : Nat} (d : Dc code pc (.new i) 3 pc') (w : (Jvm.Cond.classLink own i C).before a0 Z = true) (wi : (Jvm.Cond.instantiable C sl).before a0 Z = true) (wz : (Jvm.Cond.initialized C).before a0 Z = true) (hk1 : k + 1 = k') (hn1 : n + sl = n') (hkR : k' ≤ R.cells) (hnR : n' ≤ R.slots)
    (H : ∀ h' b, b = h.size → Ext h h' → Exa Z h' b C → (∀ {O nm d : String} {ty : FieldType}, Laid Z a0 C O nm d → parseFieldDescriptor d = some ty → Fld Z h' b O nm d (defaultValue ty)) → G p l e R s m args below meth c Z.heap.size Q h' k' n' pc' Ls (.ref b :: st)) : G p l e R s m args below meth c Z.heap.size Q h k n pc Ls st := by
  obtain ⟨hx, hZ, hown, rfl, hml, hret, hnm, -⟩ := cx
  obtain ⟨d, rfl⟩ := d
  subst hk1 hn1
  intro T locs cells slots X N eT hk hn
  obtain ⟨T', h', X', e', E, A, D, -, stp⟩ := newO X hx hZ hown w wi wz eT (g := mkF m pc Ls st) rfl d (by omega) (by omega)
  obtain ⟨s₂, o, st2, r⟩ := H h' _ rfl E A D T' locs _ _ X' N e' (by omega) (by omega)
  exact ⟨s₂, o, stp _ st2, r⟩
theorem g_newarray {kx nx : Nat} (cx : Cx Z p s m meth c R kx nx own nm code maxL ret) {aty : ArrayType} {z : Int32} {cap k' n' : Nat} {ad : String} (had : "[" ++ (newarray.typeOf aty).toString = ad) (d : Dc code pc (.newarray aty) 2 pc') (w : (Jvm.Cond.arrayClass (newarray.typeOf aty)).before a0 Z = true) (hz : ¬ z < 0) (hcap : z.toNatClampNeg ≤ cap) (hb : cap * 8 ≤ 536870912) (hk1 : k + 1 = k') (hn1 : n + cap = n') (hkR : k' ≤ R.cells) (hnR : n' ≤ R.slots)
    (H : ∀ h' b cA, b = h.size → Ext h h' → Arx Z h' b cA (newarray.typeOf aty) z [] (defaultValue (newarray.typeOf aty)) ad → G p l e R s m args below meth c Z.heap.size Q h' k' n' pc' Ls (.ref b :: st)) : G p l e R s m args below meth c Z.heap.size Q h k n pc Ls (.int z :: st) := by
  obtain ⟨hx, hZ, hown, rfl, hml, hret, hnm, -⟩ := cx
  obtain ⟨d, rfl⟩ := d
  subst hk1 hn1
  intro T locs cells slots X N eT hk hn
  obtain ⟨T', h', cA, X', e', E, A, Ex, stp⟩ := newPE X hx hZ w eT (g := mkF m pc Ls (.int z :: st)) rfl d rfl hz hcap hb (by omega) (by omega) had
  obtain ⟨s₂, o, st2, r⟩ := H h' _ cA rfl E ⟨Arv.new A hz, Ex⟩ T' locs _ _ X' N e' (by omega) (by omega)
  exact ⟨s₂, o, stp _ st2, r⟩
theorem g_anewarray {kx nx : Nat} (cx : Cx Z p s m meth c R kx nx own nm code maxL ret) {C ad : String} {i : Nat} {z : Int32} {cap k' n' : Nat} (had : "[" ++ (FieldType.object C).toString = ad) (d : Dc code pc (.anewarray i) 3 pc') (w1 : (Jvm.Cond.classLink own i C).before a0 Z = true) (w2 : (Jvm.Cond.arrayOver (.object C)).before a0 Z = true) (hz : ¬ z < 0) (hcap : z.toNatClampNeg ≤ cap) (hb : cap * 8 ≤ 536870912) (hk1 : k + 1 = k') (hn1 : n + cap = n') (hkR : k' ≤ R.cells) (hnR : n' ≤ R.slots)
    (H : ∀ h' b cA, b = h.size → Ext h h' → Arx Z h' b cA (.object C) z [] .null ad → Ovr Z cA C → G p l e R s m args below meth c Z.heap.size Q h' k' n' pc' Ls (.ref b :: st)) : G p l e R s m args below meth c Z.heap.size Q h k n pc Ls (.int z :: st) := by
  obtain ⟨hx, hZ, hown, rfl, hml, hret, hnm, -⟩ := cx
  obtain ⟨d, rfl⟩ := d
  subst hk1 hn1
  intro T locs cells slots X N eT hk hn
  obtain ⟨T', h', cA, X', e', E, A, Ex, O, stp⟩ := newRE X hx hZ hown w1 w2 eT (g := mkF m pc Ls (.int z :: st)) rfl d rfl hz hcap hb (by omega) (by omega) had
  obtain ⟨s₂, o, st2, r⟩ := H h' _ cA rfl E ⟨Arv.new A hz, Ex⟩ O T' locs _ _ X' N e' (by omega) (by omega)
  exact ⟨s₂, o, stp _ st2, r⟩
theorem g_anewarrayA {kx nx : Nat} (cx : Cx Z p s m meth c R kx nx own nm code maxL ret) {C ad : String} {t : FieldType} {i : Nat} {z : Int32} {cap k' n' : Nat} (hC : (FieldType.array t).toString = C) (had : "[" ++ C = ad) (d : Dc code pc (.anewarray i) 3 pc') (w1 : (Jvm.Cond.classLink own i C).before a0 Z = true) (w2 : (Jvm.Cond.arrayOver (.array t)).before a0 Z = true) (hz : ¬ z < 0) (hcap : z.toNatClampNeg ≤ cap) (hb : cap * 8 ≤ 536870912) (hk1 : k + 1 = k') (hn1 : n + cap = n') (hkR : k' ≤ R.cells) (hnR : n' ≤ R.slots)
    (H : ∀ h' b cA, b = h.size → Ext h h' → Arx Z h' b cA (.array t) z [] .null ad → OvrA Z cA t C → G p l e R s m args below meth c Z.heap.size Q h' k' n' pc' Ls (.ref b :: st)) : G p l e R s m args below meth c Z.heap.size Q h k n pc Ls (.int z :: st) := by
  obtain ⟨hx, hZ, hown, rfl, hml, hret, hnm, -⟩ := cx
  obtain ⟨d, rfl⟩ := d
  subst hk1 hn1
  intro T locs cells slots X N eT hk hn
  obtain ⟨T', h', cA, X', e', E, A, Ex, O, stp⟩ := newRA X hx hZ hown hC w1 w2 eT (g := mkF m pc Ls (.int z :: st)) rfl d rfl hz hcap hb (by omega) (by omega) had
  obtain ⟨s₂, o, st2, r⟩ := H h' _ cA rfl E ⟨Arv.new A hz, Ex⟩ O T' locs _ _ X' N e' (by omega) (by omega)
  exact ⟨s₂, o, stp _ st2, r⟩
theorem g_iastore {kx nx : Nat} (cx : Cx Z p s m meth c R kx nx own nm code maxL ret) {a : Addr} {cA : ClassId} {z j : Int32} {ad : String} {vs : List Value} {dv : Value} {x : Int32} (d : Dc code pc .iastore 1 pc') (A : Arx Z h a cA .int z vs dv ad) (hj : ¬ j < 0 ∧ j < z) (hl : j.toNatClampNeg < vs.length) (g : Z.heap.size ≤ a) (H : ∀ h', Wr h h' a j.toNatClampNeg (.int x) → Arx Z h' a cA .int z (vs.set j.toNatClampNeg (.int x)) dv ad → G p l e R s m args below meth c Z.heap.size Q h' k n pc' Ls st) : G p l e R s m args below meth c Z.heap.size Q h k n pc Ls (.int x :: .int j :: .ref a :: st) := by
  obtain ⟨hx, hZ, hown, rfl, hml, hret, hnm, -⟩ := cx
  obtain ⟨d, rfl⟩ := d
  intro T locs cells slots X N eT hk hn
  obtain ⟨⟨cl, Ar, q, S, Nz, Hs, Gf⟩, Ex⟩ := A
  obtain ⟨T', h', X', e', W, stp⟩ := stI X hx hZ eT Ar (j := j) (inb_of S hj) (g := mkF m pc Ls (.int x :: .int j :: .ref a :: st)) rfl rfl d
  obtain ⟨s₂, o, st2, r⟩ := H h' W ⟨Arv.set Ar q S Nz Hs Gf rfl W _ rfl hl, Ex.wr W⟩ T' _ cells slots X' (Fr.snoc X' N g) e' hk hn
  exact ⟨s₂, o, stp _ st2, r⟩
theorem g_lastore {kx nx : Nat} (cx : Cx Z p s m meth c R kx nx own nm code maxL ret) {a : Addr} {cA : ClassId} {z j : Int32} {ad : String} {vs : List Value} {dv : Value} {x : Int64} (d : Dc code pc .lastore 1 pc') (A : Arx Z h a cA .long z vs dv ad) (hj : ¬ j < 0 ∧ j < z) (hl : j.toNatClampNeg < vs.length) (g : Z.heap.size ≤ a) (H : ∀ h', Wr h h' a j.toNatClampNeg (.long x) → Arx Z h' a cA .long z (vs.set j.toNatClampNeg (.long x)) dv ad → G p l e R s m args below meth c Z.heap.size Q h' k n pc' Ls st) : G p l e R s m args below meth c Z.heap.size Q h k n pc Ls (.long x :: .int j :: .ref a :: st) := by
  obtain ⟨hx, hZ, hown, rfl, hml, hret, hnm, -⟩ := cx
  obtain ⟨d, rfl⟩ := d
  intro T locs cells slots X N eT hk hn
  obtain ⟨⟨cl, Ar, q, S, Nz, Hs, Gf⟩, Ex⟩ := A
  obtain ⟨T', h', X', e', W, stp⟩ := stJ X hx hZ eT Ar (j := j) (inb_of S hj) (g := mkF m pc Ls (.long x :: .int j :: .ref a :: st)) rfl rfl d
  obtain ⟨s₂, o, st2, r⟩ := H h' W ⟨Arv.set Ar q S Nz Hs Gf rfl W _ rfl hl, Ex.wr W⟩ T' _ cells slots X' (Fr.snoc X' N g) e' hk hn
  exact ⟨s₂, o, stp _ st2, r⟩
theorem g_castore {kx nx : Nat} (cx : Cx Z p s m meth c R kx nx own nm code maxL ret) {a : Addr} {cA : ClassId} {z j : Int32} {ad : String} {vs : List Value} {dv : Value} {x : Int32} (d : Dc code pc .castore 1 pc') (A : Arx Z h a cA .char z vs dv ad) (hj : ¬ j < 0 ∧ j < z) (hl : j.toNatClampNeg < vs.length) (g : Z.heap.size ≤ a) (H : ∀ h', Wr h h' a j.toNatClampNeg (.int (nar .char x)) → Arx Z h' a cA .char z (vs.set j.toNatClampNeg (.int (nar .char x))) dv ad → G p l e R s m args below meth c Z.heap.size Q h' k n pc' Ls st) : G p l e R s m args below meth c Z.heap.size Q h k n pc Ls (.int x :: .int j :: .ref a :: st) := by
  obtain ⟨hx, hZ, hown, rfl, hml, hret, hnm, -⟩ := cx
  obtain ⟨d, rfl⟩ := d
  intro T locs cells slots X N eT hk hn
  obtain ⟨⟨cl, Ar, q, S, Nz, Hs, Gf⟩, Ex⟩ := A
  obtain ⟨T', h', X', e', W, stp⟩ := stC X hx hZ eT Ar (j := j) (inb_of S hj) (g := mkF m pc Ls (.int x :: .int j :: .ref a :: st)) rfl rfl d
  obtain ⟨s₂, o, st2, r⟩ := H h' W ⟨Arv.set Ar q S Nz Hs Gf (fits_nar_char _) W _ rfl hl, Ex.wr W⟩ T' _ cells slots X' (Fr.snoc X' N g) e' hk hn
  exact ⟨s₂, o, stp _ st2, r⟩
theorem g_bastore {kx nx : Nat} (cx : Cx Z p s m meth c R kx nx own nm code maxL ret) {a : Addr} {cA : ClassId} {z j : Int32} {ad : String} {vs : List Value} {dv : Value} {x : Int32} (d : Dc code pc .bastore 1 pc') (A : Arx Z h a cA .byte z vs dv ad) (hj : ¬ j < 0 ∧ j < z) (hl : j.toNatClampNeg < vs.length) (g : Z.heap.size ≤ a) (H : ∀ h', Wr h h' a j.toNatClampNeg (.int (nar .byte x)) → Arx Z h' a cA .byte z (vs.set j.toNatClampNeg (.int (nar .byte x))) dv ad → G p l e R s m args below meth c Z.heap.size Q h' k n pc' Ls st) : G p l e R s m args below meth c Z.heap.size Q h k n pc Ls (.int x :: .int j :: .ref a :: st) := by
  obtain ⟨hx, hZ, hown, rfl, hml, hret, hnm, -⟩ := cx
  obtain ⟨d, rfl⟩ := d
  intro T locs cells slots X N eT hk hn
  obtain ⟨⟨cl, Ar, q, S, Nz, Hs, Gf⟩, Ex⟩ := A
  obtain ⟨T', h', X', e', W, stp⟩ := stB X hx hZ eT Ar (j := j) (inb_of S hj) (g := mkF m pc Ls (.int x :: .int j :: .ref a :: st)) rfl rfl d
  obtain ⟨s₂, o, st2, r⟩ := H h' W ⟨Arv.set Ar q S Nz Hs Gf (fits_nar_byte _) W _ rfl hl, Ex.wr W⟩ T' _ cells slots X' (Fr.snoc X' N g) e' hk hn
  exact ⟨s₂, o, stp _ st2, r⟩
theorem g_aastore {kx nx : Nat} (cx : Cx Z p s m meth c R kx nx own nm code maxL ret) {a : Addr} {cA : ClassId} {z j : Int32} {ad : String} {vs : List Value} {dv v : Value} {ty : FieldType} (d : Dc code pc .aastore 1 pc') (A : Arx Z h a cA ty z vs dv ad) (hty : ty.isReference = true) (hf : fits ty v = true) (So : Sto Z h a v) (hj : ¬ j < 0 ∧ j < z) (hl : j.toNatClampNeg < vs.length) (g : Z.heap.size ≤ a) (H : ∀ h', Wr h h' a j.toNatClampNeg v → Arx Z h' a cA ty z (vs.set j.toNatClampNeg v) dv ad → G p l e R s m args below meth c Z.heap.size Q h' k n pc' Ls st) : G p l e R s m args below meth c Z.heap.size Q h k n pc Ls (v :: .int j :: .ref a :: st) := by
  obtain ⟨hx, hZ, hown, rfl, hml, hret, hnm, -⟩ := cx
  obtain ⟨d, rfl⟩ := d
  intro T locs cells slots X N eT hk hn
  obtain ⟨⟨cl, Ar, q, S, Nz, Hs, Gf⟩, Ex⟩ := A
  obtain ⟨T', h', X', e', W, stp⟩ := stR X hx hZ eT Ar (j := j) (inb_of S hj) hty So (g := mkF m pc Ls (v :: .int j :: .ref a :: st)) rfl rfl d
  obtain ⟨s₂, o, st2, r⟩ := H h' W ⟨Arv.set Ar q S Nz Hs Gf hf W _ rfl hl, Ex.wr W⟩ T' _ cells slots X' (Fr.snoc X' N g) e' hk hn
  exact ⟨s₂, o, stp _ st2, r⟩
theorem g_iaload {kx nx : Nat} (cx : Cx Z p s m meth c R kx nx own nm code maxL ret) {a : Addr} {cA : ClassId} {z j : Int32} {vs : List Value} {dv v : Value} (d : Dc code pc .iaload 1 pc') (A : Arv Z h a cA .int z vs dv) (hj : ¬ j < 0 ∧ j < z) (hv : vs.getD j.toNatClampNeg dv = v) (H : G p l e R s m args below meth c Z.heap.size Q h k n pc' Ls (v :: st)) : G p l e R s m args below meth c Z.heap.size Q h k n pc Ls (.int j :: .ref a :: st) := by
  obtain ⟨hx, hZ, hown, rfl, hml, hret, hnm, -⟩ := cx
  obtain ⟨d, rfl⟩ := d
  intro T locs cells slots X N eT hk hn
  obtain ⟨cl, Ar, q, S, Nz, Hs, Gf⟩ := A
  obtain ⟨s₂, o, st2, r⟩ := H T _ cells slots X N eT hk hn
  exact ⟨s₂, o, X.iaload hx (j := j) (v := v) (by rw [eT]; exact Ar.1) (State.isArrayOf_alike hZ.alike Ar.2.1) Ar.2.2 (inb_of S hj) (Hs.at (inb_of S hj) hv) (g := mkF m pc Ls (.int j :: .ref a :: st)) rfl rfl d _ st2, r⟩
theorem g_laload {kx nx : Nat} (cx : Cx Z p s m meth c R kx nx own nm code maxL ret) {a : Addr} {cA : ClassId} {z j : Int32} {vs : List Value} {dv v : Value} (d : Dc code pc .laload 1 pc') (A : Arv Z h a cA .long z vs dv) (hj : ¬ j < 0 ∧ j < z) (hv : vs.getD j.toNatClampNeg dv = v) (H : G p l e R s m args below meth c Z.heap.size Q h k n pc' Ls (v :: st)) : G p l e R s m args below meth c Z.heap.size Q h k n pc Ls (.int j :: .ref a :: st) := by
  obtain ⟨hx, hZ, hown, rfl, hml, hret, hnm, -⟩ := cx
  obtain ⟨d, rfl⟩ := d
  intro T locs cells slots X N eT hk hn
  obtain ⟨cl, Ar, q, S, Nz, Hs, Gf⟩ := A
  obtain ⟨s₂, o, st2, r⟩ := H T _ cells slots X N eT hk hn
  exact ⟨s₂, o, X.laload hx (j := j) (v := v) (by rw [eT]; exact Ar.1) (State.isArrayOf_alike hZ.alike Ar.2.1) Ar.2.2 (inb_of S hj) (Hs.at (inb_of S hj) hv) (g := mkF m pc Ls (.int j :: .ref a :: st)) rfl rfl d _ st2, r⟩
theorem g_caload {kx nx : Nat} (cx : Cx Z p s m meth c R kx nx own nm code maxL ret) {a : Addr} {cA : ClassId} {z j : Int32} {vs : List Value} {dv v : Value} (d : Dc code pc .caload 1 pc') (A : Arv Z h a cA .char z vs dv) (hj : ¬ j < 0 ∧ j < z) (hv : vs.getD j.toNatClampNeg dv = v) (H : G p l e R s m args below meth c Z.heap.size Q h k n pc' Ls (v :: st)) : G p l e R s m args below meth c Z.heap.size Q h k n pc Ls (.int j :: .ref a :: st) := by
  obtain ⟨hx, hZ, hown, rfl, hml, hret, hnm, -⟩ := cx
  obtain ⟨d, rfl⟩ := d
  intro T locs cells slots X N eT hk hn
  obtain ⟨cl, Ar, q, S, Nz, Hs, Gf⟩ := A
  obtain ⟨s₂, o, st2, r⟩ := H T _ cells slots X N eT hk hn
  exact ⟨s₂, o, X.caload hx (j := j) (v := v) (by rw [eT]; exact Ar.1) (State.isArrayOf_alike hZ.alike Ar.2.1) Ar.2.2 (inb_of S hj) (Hs.at (inb_of S hj) hv) (g := mkF m pc Ls (.int j :: .ref a :: st)) rfl rfl d _ st2, r⟩
theorem g_baload {kx nx : Nat} (cx : Cx Z p s m meth c R kx nx own nm code maxL ret) {a : Addr} {cA : ClassId} {z j : Int32} {vs : List Value} {dv v : Value} (d : Dc code pc .baload 1 pc') (A : Arv Z h a cA .byte z vs dv) (hj : ¬ j < 0 ∧ j < z) (hv : vs.getD j.toNatClampNeg dv = v) (H : G p l e R s m args below meth c Z.heap.size Q h k n pc' Ls (v :: st)) : G p l e R s m args below meth c Z.heap.size Q h k n pc Ls (.int j :: .ref a :: st) := by
  obtain ⟨hx, hZ, hown, rfl, hml, hret, hnm, -⟩ := cx
  obtain ⟨d, rfl⟩ := d
  intro T locs cells slots X N eT hk hn
  obtain ⟨cl, Ar, q, S, Nz, Hs, Gf⟩ := A
  obtain ⟨s₂, o, st2, r⟩ := H T _ cells slots X N eT hk hn
  exact ⟨s₂, o, X.baloadBytes hx (j := j) (v := v) (by rw [eT]; exact Ar.1) (State.isArrayOf_alike hZ.alike Ar.2.1) Ar.2.2 (inb_of S hj) (Hs.at (inb_of S hj) hv) (g := mkF m pc Ls (.int j :: .ref a :: st)) rfl rfl d _ st2, r⟩
theorem g_aaload {kx nx : Nat} (cx : Cx Z p s m meth c R kx nx own nm code maxL ret) {a : Addr} {cA : ClassId} {z j : Int32} {vs : List Value} {dv v : Value} {ty : FieldType} (d : Dc code pc .aaload 1 pc') (A : Arv Z h a cA ty z vs dv) (hty : ty.isReference = true) (hj : ¬ j < 0 ∧ j < z) (hv : vs.getD j.toNatClampNeg dv = v) (H : G p l e R s m args below meth c Z.heap.size Q h k n pc' Ls (v :: st)) : G p l e R s m args below meth c Z.heap.size Q h k n pc Ls (.int j :: .ref a :: st) := by
  obtain ⟨hx, hZ, hown, rfl, hml, hret, hnm, -⟩ := cx
  obtain ⟨d, rfl⟩ := d
  intro T locs cells slots X N eT hk hn
  obtain ⟨cl, Ar, q, S, Nz, Hs, Gf⟩ := A
  obtain ⟨s₂, o, st2, r⟩ := H T _ cells slots X N eT hk hn
  exact ⟨s₂, o, X.aaload hx (j := j) (v := v) (by rw [eT]; exact Ar.1) (State.isArrayOf_alike hZ.alike Ar.2.1) hty Ar.2.2 (inb_of S hj) (Hs.at (inb_of S hj) hv) (g := mkF m pc Ls (.int j :: .ref a :: st)) rfl rfl d _ st2, r⟩
theorem g_arraylength {kx nx : Nat} (cx : Cx Z p s m meth c R kx nx own nm code maxL ret) {a : Addr} {cA : ClassId} {z : Int32} {vs : List Value} {dv : Value} {ty : FieldType} (d : Dc code pc .arraylength 1 pc') (A : Arv Z h a cA ty z vs dv) (H : G p l e R s m args below meth c Z.heap.size Q h k n pc' Ls (.int z :: st)) : G p l e R s m args below meth c Z.heap.size Q h k n pc Ls (.ref a :: st) := by
  obtain ⟨hx, hZ, hown, rfl, hml, hret, hnm, -⟩ := cx
  obtain ⟨d, rfl⟩ := d
  intro T locs cells slots X N eT hk hn
  obtain ⟨cl, Ar, q, S, Nz, Hs, Gf⟩ := A
  obtain ⟨s₂, o, st2, r⟩ := H T _ cells slots X N eT hk hn
  exact ⟨s₂, o, X.arraylength hx (by rw [eT]; exact Ar.1) (State.isArrayOf_alike hZ.alike Ar.2.1) (g := mkF m pc Ls (.ref a :: st)) rfl rfl d _ (by rw [len_of S Nz]; exact st2), r⟩
theorem g_checkcast {kx nx : Nat} (cx : Cx Z p s m meth c R kx nx own nm code maxL ret) {K : String} {i : Nat} {a : Addr} (d : Dc code pc (.checkcast i) 3 pc') (w : (Jvm.Cond.classLink own i K).before a0 Z = true) (F : Ins Z h a K true) (H : G p l e R s m args below meth c Z.heap.size Q h k n pc' Ls (.ref a :: st)) : G p l e R s m args below meth c Z.heap.size Q h k n pc Ls (.ref a :: st) := by
  obtain ⟨hx, hZ, hown, rfl, hml, hret, hnm, -⟩ := cx
  obtain ⟨d, rfl⟩ := d
  intro T locs cells slots X N eT hk hn
  obtain ⟨T', X', e', stp⟩ := castY X hx hZ hown w eT F (g := mkF m pc Ls (.ref a :: st)) rfl rfl d
  obtain ⟨s₂, o, st2, r⟩ := H T' _ cells slots X' N e' hk hn
  exact ⟨s₂, o, stp _ st2, r⟩
theorem g_instanceY {kx nx : Nat} (cx : Cx Z p s m meth c R kx nx own nm code maxL ret) {K : String} {i : Nat} {a : Addr} (d : Dc code pc (.instanceof i) 3 pc') (w : (Jvm.Cond.classLink own i K).before a0 Z = true) (F : Ins Z h a K true) (H : G p l e R s m args below meth c Z.heap.size Q h k n pc' Ls (.int 1 :: st)) : G p l e R s m args below meth c Z.heap.size Q h k n pc Ls (.ref a :: st) := by
  obtain ⟨hx, hZ, hown, rfl, hml, hret, hnm, -⟩ := cx
  obtain ⟨d, rfl⟩ := d
  intro T locs cells slots X N eT hk hn
  obtain ⟨T', X', e', stp⟩ := instY X hx hZ hown w eT F (g := mkF m pc Ls (.ref a :: st)) rfl rfl d
  obtain ⟨s₂, o, st2, r⟩ := H T' _ cells slots X' N e' hk hn
  exact ⟨s₂, o, stp _ st2, r⟩
theorem g_ret {kx nx : Nat} (cx : Cx Z p s m meth c R kx nx own nm code maxL ret) {t : FieldType} {w v : Value} {i : Instr} (d : Dc code pc i 1 pc') (hR : ret = some t)
    (hs : ∀ T locs cells slots, Stand p l e R s m args below meth c T locs cells slots → ∀ fs, (∀ (f : JFrame) (acts : List Action), f.method = m → f.locked = none → f.entered = [] → (doReturn e (T.setTop f) acts (some v)).1 = T.setFrames fs) → Steps p.tables e below (T.setTop (mkF m pc Ls (w :: st))) (T.setFrames fs))
    (hk : k ≤ R.cells) (hn : n ≤ R.slots) (q : Q (some v) h) : G p l e R s m args below meth c Z.heap.size Q h k n pc Ls (w :: st) := by
  obtain ⟨hx, hZ, hown, rfl, hml, rfl, hnm, hlk⟩ := cx
  intro T locs cells slots X N eT hk' hn'
  obtain ⟨fs, hr, hrun, hended, hW, hsame⟩ := X.leave (v := some v) (fun h => by rw [hR] at h; cases h) hlk
  exact ⟨_, _, hs T locs cells slots X fs hr, hrun, hended, _, locs, rfl, ⟨by show Q _ T.heap; rw [eT]; exact q, N⟩, ⟨_, rfl⟩, hW, hsame.mono (by omega) (by omega)⟩
theorem g_retI {kx nx : Nat} (cx : Cx Z p s m meth c R kx nx own nm code maxL ret) {x : Int32} (d : Dc code pc .ireturn 1 pc') (hR : ret = some .int) (hk : k ≤ R.cells) (hn : n ≤ R.slots) (q : Q (some (.int x)) h) : G p l e R s m args below meth c Z.heap.size Q h k n pc Ls (.int x :: st) :=
  g_ret cx (t := .int) d hR (fun T locs cells slots X fs hl => retOut X cx.1 (cx.2.2.2.2.2.1.trans hR) rfl (Or.inl ⟨rfl, Or.inl rfl, _, rfl⟩) (by rw [cx.2.2.2.1]; exact d.1) hl) hk hn q
theorem g_retJ {kx nx : Nat} (cx : Cx Z p s m meth c R kx nx own nm code maxL ret) {x : Int64} (d : Dc code pc .lreturn 1 pc') (hR : ret = some .long) (hk : k ≤ R.cells) (hn : n ≤ R.slots) (q : Q (some (.long x)) h) : G p l e R s m args below meth c Z.heap.size Q h k n pc Ls (.long x :: st) :=
  g_ret cx (t := .long) d hR (fun T locs cells slots X fs hl => retOut X cx.1 (cx.2.2.2.2.2.1.trans hR) rfl (Or.inr (Or.inl ⟨rfl, rfl, _, rfl⟩)) (by rw [cx.2.2.2.1]; exact d.1) hl) hk hn q
theorem g_retN {kx nx : Nat} (cx : Cx Z p s m meth c R kx nx own nm code maxL ret) {x : Int32} {t : FieldType} (d : Dc code pc .ireturn 1 pc') (hR : ret = some t) (ht : t = .boolean ∨ t = .byte ∨ t = .char ∨ t = .short) (hk : k ≤ R.cells) (hn : n ≤ R.slots) (q : Q (some (.int (nar t x))) h) : G p l e R s m args below meth c Z.heap.size Q h k n pc Ls (.int x :: st) :=
  g_ret cx (t := t) d hR (fun T locs cells slots X fs hl => retN X cx.1 (cx.2.2.2.2.2.1.trans hR) ht (by rw [cx.2.2.2.1]; exact d.1) hl) hk hn q
theorem g_retZ {kx nx : Nat} (cx : Cx Z p s m meth c R kx nx own nm code maxL ret) {x : Int32} (d : Dc code pc .ireturn 1 pc') (hR : ret = some .boolean) (hx01 : nar .boolean x = x) (hk : k ≤ R.cells) (hn : n ≤ R.slots) (q : Q (some (.int x)) h) : G p l e R s m args below meth c Z.heap.size Q h k n pc Ls (.int x :: st) :=
  g_retN cx d hR (Or.inl rfl) hk hn (by rw [hx01]; exact q)
theorem g_retA {kx nx : Nat} (cx : Cx Z p s m meth c R kx nx own nm code maxL ret) {w : Value} {t : FieldType} (d : Dc code pc .areturn 1 pc') (hR : ret = some t) (ht : t.isReference = true) (hw : w.isRef = true) (hnar : narrow t w = w) (hk : k ≤ R.cells) (hn : n ≤ R.slots) (q : Q (some w) h) : G p l e R s m args below meth c Z.heap.size Q h k n pc Ls (w :: st) :=
  g_ret cx (t := t) d hR (fun T locs cells slots X fs hl => retOut X cx.1 (cx.2.2.2.2.2.1.trans hR) hnar (Or.inr (Or.inr (Or.inr (Or.inr ⟨rfl, ht, hw⟩)))) (by rw [cx.2.2.2.1]; exact d.1) hl) hk hn q
theorem g_retV {kx nx : Nat} (cx : Cx Z p s m meth c R kx nx own nm code maxL ret) (d : Dc code pc .return_ 1 pc') (hR : ret = none) (hk : k ≤ R.cells) (hn : n ≤ R.slots) (q : Q none h) : G p l e R s m args below meth c Z.heap.size Q h k n pc Ls [] := by
  obtain ⟨hx, hZ, hown, rfl, hml, rfl, hnm, hlk⟩ := cx
  intro T locs cells slots X N eT hk' hn'
  obtain ⟨fs, hr, hrun, hended, hW, hsame⟩ := X.leave (v := none) (fun _ => rfl) hlk
  exact ⟨_, _, X.returnOut hx hR d.1 hr, hrun, hended, _, locs, rfl, ⟨by show Q _ T.heap; rw [eT]; exact q, N⟩, ⟨_, rfl⟩, hW, hsame.mono (by omega) (by omega)⟩
theorem g_initO {kx nx : Nat} (cx : Cx Z p s m meth c R kx nx own nm code maxL ret) {i W : Nat} {a : Addr} (d : Dc code pc (.invokespecial i) 3 pc') (w1 : (Jvm.Cond.methodLink own i Lib.objectInit).before a0 Z = true) (w2 : (Jvm.Cond.instanceMethod Lib.objectInit).before a0 Z = true) (w3 : (Jvm.Cond.code Lib.objectInit ⟨#[0xb1]⟩ 1 none).before a0 Z = true) (hsz : Ls.size = maxL) (hf : 1 ≤ R.frames) (hW : (st.map fun v => v.category).sum ≤ W) (hl : W + 12 ≤ R.locals)
    (H : G p l e R s m args below meth c Z.heap.size Q h k n pc' Ls st) : G p l e R s m args below meth c Z.heap.size Q h k n pc Ls (.ref a :: st) := by
  obtain ⟨hx, hZ, hown, rfl, hml, hret, hnm, -⟩ := cx
  obtain ⟨d, rfl⟩ := d
  intro T locs cells slots X N eT hk hn
  obtain ⟨T', X', e', stp⟩ := initO X hx hZ hown w1 w2 w3 eT (g := mkF m pc Ls (.ref a :: st)) rfl (by rw [hml]; exact hsz) rfl d hf (W := W) (by show 2 * 0 + _ ≤ _; omega) hl
  obtain ⟨s₂, o, st2, r⟩ := H T' locs cells slots X' N e' hk hn
  exact ⟨s₂, o, stp _ st2, r⟩
theorem own_dummy : True := trivial
theorem g_static {kx nx : Nat} (cx : Cx Z p s m meth c R kx nx own nm code maxL ret) {i W k' n' maxL' : Nat} {bytes : ByteArray} {ret' : Option FieldType} {rm : Room} {argsL : List Value} {Q' : Option Value → Heap → Prop} {y : MethodName} (d : Dc code pc (.invokestatic i) 3 pc') (w1 : (Jvm.Cond.methodLink own i y).before a0 Z = true) (w2 : (Jvm.Cond.static y).before a0 Z = true) (w3 : (Jvm.Cond.initialized y.cls).before a0 Z = true) (w4 : (Jvm.Cond.code y bytes maxL' ret').before a0 Z = true) (hy : y.cls ≠ "java/lang/invoke/MethodHandle" ∧ y.cls ≠ "java/lang/invoke/VarHandle") (M : Met l Z y bytes maxL' ret' rm argsL.toArray h Q') (hsz : Ls.size = maxL) (hlen : ∀ sig, parseMethodDescriptor y.desc = some sig → argsL.length = sig.parameters.length) (hf : rm.frames + 1 ≤ R.frames) (hW : (rest.map fun v => v.category).sum ≤ W) (hl : W + (maxL' + 11) + rm.locals ≤ R.locals) (hk1 : k + rm.cells = k') (hn1 : n + rm.slots = n') (hkR : k' ≤ R.cells) (hnR : n' ≤ R.slots)
    (hst : st = argsL.reverse ++ rest) (H : ∀ v h', Q' v h' → G p l e R s m args below meth c Z.heap.size Q h' k' n' pc' Ls (v.toList ++ rest)) : G p l e R s m args below meth c Z.heap.size Q h k n pc Ls st := by
  obtain ⟨hx, hZ, hown, rfl, hml, hret, hnm, -⟩ := cx
  obtain ⟨d, rfl⟩ := d
  subst hk1 hn1 hst
  intro T locs cells slots X N eT hk hn
  obtain ⟨v, _, ⟨T', L', k1', n1'⟩, -, X', ⟨Lc, hQ, l1, l2, l3⟩, stp⟩ := Jvm.LawKit.callS X hx (y := y) hown (mvT hZ w1) (mvT hZ w2) (mvT hZ w3) (mvT hZ w4) hy (backOf (W := W) (Q := fun v h L => Q' v h ∧ Fr Z.heap.size L) (M []) hZ w4 w3 hf hl) (g := mkF m pc Ls (argsL.reverse ++ rest)) rfl (by rw [hml]; exact hsz)  (argsL := argsL) (rest := rest) hlen rfl (by show 2 * 0 + _ ≤ _; omega) d (fun _ _ => ⟨rfl, eT, (by show cells + rm.cells ≤ _; omega), (by show slots + rm.slots ≤ _; omega)⟩)
  dsimp only [Pt.U, Pt.locs, Pt.cells, Pt.slots] at X' l1 l2 l3 stp hQ
  subst l1 l2 l3
  obtain ⟨s₂, o, st2, r⟩ := H v T'.heap hQ.1 T' _ _ _ X' (Fr.app N hQ.2) rfl (by omega) (by omega)
  exact ⟨s₂, o, stp _ st2, r⟩
theorem g_special {kx nx : Nat} (cx : Cx Z p s m meth c R kx nx own nm code maxL ret) {i W k' n' maxL' : Nat} {bytes : ByteArray} {ret' : Option FieldType} {rm : Room} {argsL : List Value} {Q' : Option Value → Heap → Prop} {y : MethodName} {a : Addr} (d : Dc code pc (.invokespecial i) 3 pc') (hyn : y.name = "<init>") (hr0 : ret' = none) (w1 : (Jvm.Cond.methodLink own i y).before a0 Z = true) (w2 : (Jvm.Cond.instanceMethod y).before a0 Z = true) (w3 : (Jvm.Cond.initialized y.cls).before a0 Z = true) (w4 : (Jvm.Cond.code y bytes maxL' ret').before a0 Z = true) (hy : y.cls ≠ "java/lang/invoke/MethodHandle" ∧ y.cls ≠ "java/lang/invoke/VarHandle") (M : Met l Z y bytes maxL' ret' rm (.ref a :: argsL).toArray h Q') (hsz : Ls.size = maxL) (hlen : ∀ sig, parseMethodDescriptor y.desc = some sig → argsL.length = sig.parameters.length) (hf : rm.frames + 1 ≤ R.frames) (hW : (rest.map fun v => v.category).sum ≤ W) (hl : W + (maxL' + 11) + rm.locals ≤ R.locals) (hk1 : k + rm.cells = k') (hn1 : n + rm.slots = n') (hkR : k' ≤ R.cells) (hnR : n' ≤ R.slots)
    (hst : st = argsL.reverse ++ .ref a :: rest) (H : ∀ v h', Q' v h' → G p l e R s m args below meth c Z.heap.size Q h' k' n' pc' Ls (v.toList ++ rest)) : G p l e R s m args below meth c Z.heap.size Q h k n pc Ls st := by
  obtain ⟨hx, hZ, hown, rfl, hml, hret, hnm, -⟩ := cx
  obtain ⟨d, rfl⟩ := d
  subst hk1 hn1 hst
  intro T locs cells slots X N eT hk hn
  subst hr0
  obtain ⟨v, _, ⟨T', L', k1', n1'⟩, -, X', ⟨Lc, hQ, l1, l2, l3⟩, stp⟩ := X.specialBack hx (y := y) hyn hown (mvT hZ w1) (mvT hZ w2) (mvT hZ w4) hy (backOf (W := W) (Q := fun v h L => Q' v h ∧ Fr Z.heap.size L) (M []) hZ w4 w3 hf hl) (g := mkF m pc Ls (argsL.reverse ++ .ref a :: rest)) rfl (by rw [hml]; exact hsz) (Steps.refl _) (a := a) (argsL := argsL) (rest := rest) hlen rfl (by show 2 * 0 + _ ≤ _; omega) d (fun _ _ => ⟨rfl, eT, (by show cells + rm.cells ≤ _; omega), (by show slots + rm.slots ≤ _; omega)⟩)
  dsimp only [Pt.U, Pt.locs, Pt.cells, Pt.slots] at X' l1 l2 l3 stp hQ
  subst l1 l2 l3
  obtain ⟨s₂, o, st2, r⟩ := H v T'.heap hQ.1 T' _ _ _ X' (Fr.app N hQ.2) rfl (by omega) (by omega)
  exact ⟨s₂, o, stp.trans st2, r⟩
theorem g_virtual {kx nx : Nat} (cx : Cx Z p s m meth c R kx nx own nm code maxL ret) {i W k' n' maxL' : Nat} {bytes : ByteArray} {ret' : Option FieldType} {rm : Room} {argsL : List Value} {Q' : Option Value → Heap → Prop} {y z : MethodName} {a : Addr} {C : String} (d : Dc code pc (.invokevirtual i) 3 pc') (w1 : (Jvm.Cond.methodLink own i y).before a0 Z = true) (w2 : (Jvm.Cond.declares y).before a0 Z = true) (w3 : (Jvm.Cond.initialized z.cls).before a0 Z = true) (w4 : (Jvm.Cond.code z bytes maxL' ret').before a0 Z = true) (w5 : (Jvm.Cond.selects C y z).before a0 Z = true) (w6 : (Jvm.Cond.instanceMethod z).before a0 Z = true) (hnf : y = z) (hy : y.cls ≠ "java/lang/invoke/MethodHandle" ∧ y.cls ≠ "java/lang/invoke/VarHandle") (E : Exa Z h a C) (M : Met l Z z bytes maxL' ret' rm (.ref a :: argsL).toArray h Q') (hsz : Ls.size = maxL) (hlen : ∀ sig, parseMethodDescriptor y.desc = some sig → argsL.length = sig.parameters.length) (hf : rm.frames + 1 ≤ R.frames) (hW : (rest.map fun v => v.category).sum ≤ W) (hl : W + (maxL' + 11) + rm.locals ≤ R.locals) (hk1 : k + rm.cells = k') (hn1 : n + rm.slots = n') (hkR : k' ≤ R.cells) (hnR : n' ≤ R.slots)
    (hst : st = argsL.reverse ++ .ref a :: rest) (H : ∀ v h', Q' v h' → G p l e R s m args below meth c Z.heap.size Q h' k' n' pc' Ls (v.toList ++ rest)) : G p l e R s m args below meth c Z.heap.size Q h k n pc Ls st := by
  obtain ⟨hx, hZ, hown, rfl, hml, hret, hnm, -⟩ := cx
  obtain ⟨d, rfl⟩ := d
  subst hk1 hn1 hst
  intro T locs cells slots X N eT hk hn
  subst hnf
  obtain ⟨cq, kq, q1, q2, q3⟩ := isOf hZ eT E
  obtain ⟨v, _, ⟨T', L', k1', n1'⟩, -, X', ⟨Lc, hQ, l1, l2, l3⟩, stp⟩ := X.virtualBack hx (y := y) (z := y) hown (mvT hZ w1) (mvT hZ w2) (notFace_of_selects (args := #[]) (mvT hZ w5)) (mvT hZ w5) (mvT hZ w6) hy (backOf (W := W) (Q := fun v h L => Q' v h ∧ Fr Z.heap.size L) (M []) hZ w4 w3 hf hl) q1 q3 (g := mkF m pc Ls (argsL.reverse ++ .ref a :: rest)) rfl (by rw [hml]; exact hsz) (Steps.refl _) (argsL := argsL) (rest := rest) hlen rfl (by show 2 * 0 + _ ≤ _; omega) d (fun _ _ => ⟨rfl, eT, (by show cells + rm.cells ≤ _; omega), (by show slots + rm.slots ≤ _; omega)⟩)
  dsimp only [Pt.U, Pt.locs, Pt.cells, Pt.slots] at X' l1 l2 l3 stp hQ
  subst l1 l2 l3
  obtain ⟨s₂, o, st2, r⟩ := H v T'.heap hQ.1 T' _ _ _ X' (Fr.app N hQ.2) rfl (by omega) (by omega)
  exact ⟨s₂, o, stp.trans st2, r⟩
theorem g_private {kx nx : Nat} (cx : Cx Z p s m meth c R kx nx own nm code maxL ret) {i W k' n' maxL' : Nat} {bytes : ByteArray} {ret' : Option FieldType} {rm : Room} {argsL : List Value} {Q' : Option Value → Heap → Prop} {y : MethodName} {a : Addr} (d : Dc code pc (.invokevirtual i) 3 pc') (w1 : (Jvm.Cond.methodLink own i y).before a0 Z = true) (w2 : (Jvm.Cond.instanceMethod y).before a0 Z = true) (w3 : (Jvm.Cond.initialized y.cls).before a0 Z = true) (w4 : (Jvm.Cond.code y bytes maxL' ret').before a0 Z = true) (w5 : (Jvm.Cond.selects y.cls y y).before a0 Z = true) (w6 : (Jvm.Cond.privateMethod y).before a0 Z = true) (hy : y.cls ≠ "java/lang/invoke/MethodHandle" ∧ y.cls ≠ "java/lang/invoke/VarHandle") {C : String} (E : Exa Z h a C) (M : Met l Z y bytes maxL' ret' rm (.ref a :: argsL).toArray h Q') (hsz : Ls.size = maxL) (hlen : ∀ sig, parseMethodDescriptor y.desc = some sig → argsL.length = sig.parameters.length) (hf : rm.frames + 1 ≤ R.frames) (hW : (rest.map fun v => v.category).sum ≤ W) (hl : W + (maxL' + 11) + rm.locals ≤ R.locals) (hk1 : k + rm.cells = k') (hn1 : n + rm.slots = n') (hkR : k' ≤ R.cells) (hnR : n' ≤ R.slots)
    (hst : st = argsL.reverse ++ .ref a :: rest) (H : ∀ v h', Q' v h' → G p l e R s m args below meth c Z.heap.size Q h' k' n' pc' Ls (v.toList ++ rest)) : G p l e R s m args below meth c Z.heap.size Q h k n pc Ls st := by
  obtain ⟨hx, hZ, hown, rfl, hml, hret, hnm, -⟩ := cx
  obtain ⟨d, rfl⟩ := d
  subst hk1 hn1 hst
  intro T locs cells slots X N eT hk hn
  obtain ⟨cq, q1, q2⟩ := E.cell
  obtain ⟨v, _, ⟨T', L', k1', n1'⟩, -, X', ⟨Lc, hQ, l1, l2, l3⟩, stp⟩ := X.privateBack hx (y := y) hown (mvT hZ w1) (mvT hZ w2) (mvT hZ w5) (Cond.privateMethod_at (mvP hZ w6 (args := #[]))) (mvT hZ w4) hy (backOf (W := W) (Q := fun v h L => Q' v h ∧ Fr Z.heap.size L) (M []) hZ w4 w3 hf hl) (g := mkF m pc Ls (argsL.reverse ++ .ref a :: rest)) rfl (by rw [hml]; exact hsz) (Steps.refl _) (a := a) (by rw [eT]; exact q1) q2 (argsL := argsL) (rest := rest) hlen rfl (by show 2 * 0 + _ ≤ _; omega) d (fun _ _ => ⟨rfl, eT, (by show cells + rm.cells ≤ _; omega), (by show slots + rm.slots ≤ _; omega)⟩)
  dsimp only [Pt.U, Pt.locs, Pt.cells, Pt.slots] at X' l1 l2 l3 stp hQ
  subst l1 l2 l3
  obtain ⟨s₂, o, st2, r⟩ := H v T'.heap hQ.1 T' _ _ _ X' (Fr.app N hQ.2) rfl (by omega) (by omega)
  exact ⟨s₂, o, stp.trans st2, r⟩
theorem g_virtualUp {kx nx : Nat} (cx : Cx Z p s m meth c R kx nx own nm code maxL ret) {i W k' n' maxL' : Nat} {bytes : ByteArray} {ret' : Option FieldType} {rm : Room} {argsL : List Value} {Q' : Option Value → Heap → Prop} {x y : MethodName} {a : Addr} {C owner : String} (d : Dc code pc (.invokevirtual i) 3 pc') (w1 : (Jvm.Cond.methodLink own i x).before a0 Z = true) (w0 : (Jvm.Cond.sameMethod x.cls owner x.name x.desc).before a0 Z = true) (w2 : (Jvm.Cond.declares ⟨owner, x.name, x.desc⟩).before a0 Z = true) (w3 : (Jvm.Cond.initialized y.cls).before a0 Z = true) (w4 : (Jvm.Cond.code y bytes maxL' ret').before a0 Z = true) (w5 : (Jvm.Cond.selects C x y).before a0 Z = true) (w6 : (Jvm.Cond.instanceMethod y).before a0 Z = true) (hy : owner ≠ "java/lang/invoke/MethodHandle" ∧ owner ≠ "java/lang/invoke/VarHandle") (E : Exa Z h a C) (M : Met l Z y bytes maxL' ret' rm (.ref a :: argsL).toArray h Q') (hsz : Ls.size = maxL) (hlen : ∀ sig, parseMethodDescriptor x.desc = some sig → argsL.length = sig.parameters.length) (hf : rm.frames + 1 ≤ R.frames) (hW : (rest.map fun v => v.category).sum ≤ W) (hl : W + (maxL' + 11) + rm.locals ≤ R.locals) (hk1 : k + rm.cells = k') (hn1 : n + rm.slots = n') (hkR : k' ≤ R.cells) (hnR : n' ≤ R.slots)
    (hst : st = argsL.reverse ++ .ref a :: rest) (H : ∀ v h', Q' v h' → G p l e R s m args below meth c Z.heap.size Q h' k' n' pc' Ls (v.toList ++ rest)) : G p l e R s m args below meth c Z.heap.size Q h k n pc Ls st := by
  obtain ⟨hx, hZ, hown, rfl, hml, hret, hnm, -⟩ := cx
  obtain ⟨d, rfl⟩ := d
  subst hk1 hn1 hst
  intro T locs cells slots X N eT hk hn
  obtain ⟨cq, kq, q1, q2, q3⟩ := isOf hZ eT E
  obtain ⟨v, _, ⟨T', L', k1', n1'⟩, -, X', ⟨Lc, hQ, l1, l2, l3⟩, stp⟩ := X.virtualBackUp hx (x := x) (y := y) hown (mvT hZ w1) (mvT hZ w0) (mvT hZ w2) hy (mvT hZ w5) (mvT hZ w6) (backOf (W := W) (Q := fun v h L => Q' v h ∧ Fr Z.heap.size L) (M []) hZ w4 w3 hf hl) q1 q3 (g := mkF m pc Ls (argsL.reverse ++ .ref a :: rest)) rfl (by rw [hml]; exact hsz) (Steps.refl _) (argsL := argsL) (rest := rest) hlen rfl (by show 2 * 0 + _ ≤ _; omega) d (fun _ _ => ⟨rfl, eT, (by show cells + rm.cells ≤ _; omega), (by show slots + rm.slots ≤ _; omega)⟩)
  dsimp only [Pt.U, Pt.locs, Pt.cells, Pt.slots] at X' l1 l2 l3 stp hQ
  subst l1 l2 l3
  obtain ⟨s₂, o, st2, r⟩ := H v T'.heap hQ.1 T' _ _ _ X' (Fr.app N hQ.2) rfl (by omega) (by omega)
  exact ⟨s₂, o, stp.trans st2, r⟩
theorem specialRef {T : State} {locs : List Loc} {cells slots : Nat} (X : Stand p l e R s m args below meth c T locs cells slots) (hexec : p.tables.exec = Jvm.exec) (hZ : Z.Warmed39 s.vm) {index : Nat} {y : MethodName} (hy1 : y.name = "<init>") (hown : s.vm.findClass own = some m.cls)
    (href : (Jvm.Cond.methodRef own index y).before a0 Z = true) (hinst : (Jvm.Cond.instanceMethod y).before a0 Z = true) {bytes : ByteArray} {mL : Nat} (hcode : (Jvm.Cond.code y bytes mL none).before a0 Z = true) (hy : y.cls ≠ "java/lang/invoke/MethodHandle" ∧ y.cls ≠ "java/lang/invoke/VarHandle")
    {W : Nat} {Pre : Pt → Array Value → Prop} {Post : Pt → Array Value → Option Value → Pt → Prop} (hK : Back l R p e below s args y 3 W Pre Post)
    {g : JFrame} (hg : g.method = m) (hsize : g.locals.size = c.maxLocals) {a : Addr} {argsL rest : List Value}
    (hlen : ∀ sig, parseMethodDescriptor y.desc = some sig → argsL.length = sig.parameters.length) (hstack : g.stack = argsL.reverse ++ .ref a :: rest) (hW : 2 * g.monitorRoom + (rest.map fun v => v.category).sum ≤ W)
    (hdg : decode c.code g.pc = .ok (.invokespecial index, 3)) (hpre : Pre ⟨T, locs, cells, slots⟩ (.ref a :: argsL).toArray) :
    ∃ (v : Option Value) (B : Pt), Stand p l e R s m args below meth c B.U B.locs B.cells B.slots ∧ Post ⟨T, locs, cells, slots⟩ (.ref a :: argsL).toArray v B ∧
      Steps p.tables e below (T.setTop g) (B.U.setTop { g with pc := g.pc + 3, stack := v.toList ++ rest }) := by
  have hZT : Z.Warmed39 T.vm := wtrans hZ X.warmed
  have hinst' : (Jvm.Cond.instanceMethod y).before args s = true := mvT hZ hinst
  have hcode' : (Jvm.Cond.code y bytes mL none).before args s = true := mvT hZ hcode
  obtain ⟨obj, methO, hnO, hmO, hstO, habO⟩ := Cond.instanceMethod_spec hinst'
  obtain ⟨methO', cO, hmO', hcO, hbO, hlO, -, hlockO, -, hsigO⟩ := Cond.code_spec hnO hcode'
  cases hmO.symm.trans hmO'
  obtain ⟨kO, hkO, hnameO⟩ := className_of_methodNamed hnO
  obtain ⟨hnameMO, hdescO⟩ := name_of_methodNamed hnO hmO
  obtain ⟨objZ, _, hnZ, -⟩ := Cond.instanceMethod_spec hinst
  have hr : (Jvm.Cond.methodRef own index y).before a0 (Z.setVm T.vm) = true := Cond.methodRef_warmed39 hZT hnZ hy href
  have hownT : (Z.setVm T.vm).vm.findClass own = some m.cls := by show T.vm.findClass own = _; rw [X.warmed.alike.findClass]; exact hown
  obtain ⟨m', c', hm', hready, hfind, hnamed⟩ := Cond.methodRef_named e hownT hr
  have hf0 : s.methodFound? y.cls y.name y.desc = some obj := State.methodFound?_of_named hnO hy
  have hf1 : (s.setVm T.vm).methodFound? y.cls y.name y.desc = some obj := (State.methodFound?_setVm_of_named X.warmed.alike hnO hy).trans hf0
  have hf2 : (Z.setVm T.vm).methodFound? y.cls y.name y.desc = some obj := hf1
  cases hf2.symm.trans hm'
  have hcc : c' = obj.cls := by
    have h1 : T.vm.findClass y.cls = some c' := hfind
    rw [X.warmed.alike.findClass, findClass_of_methodNamed hnO] at h1
    exact (Option.some.inj h1).symm
  subst hcc
  obtain ⟨kO₂, hkO₂, heO₂⟩ := X.warmed.alike.2.2 _ _ hkO
  have hmO₂ : T.vm.method? obj = some methO := by rw [X.warmed.alike.method?]; exact hmO
  have hfound : lookupSpecial T.vm obj.cls "<init>" methO.desc = .method obj := by
    rw [X.warmed.alike.lookupSpecial, hdescO, ← hy1]; exact lookupSpecial_of_named hnO hmO hstO
  obtain ⟨v, B, X', hpost, hsteps⟩ := hK m meth c ⟨T, locs, cells, slots⟩ { g with stack := rest } (.invokespecial index) obj (.ref a :: argsL).toArray X hg hsize hdg hW (X.named hnO) hpre
  refine ⟨v, B, X', hpost, Steps.trans ?_ hsteps⟩
  subst hg
  jvm_step X.here [hexec, hdg, invokespecial.wp_init (e := e) (s := T) (k := kO₂) (meth := methO) (m := obj) (a := a) (args := argsL) (rest := rest) (f := g) X.here.top hnamed hready hkO₂ hmO₂ (by rw [hnameMO]; exact hy1) hstO habO hfound (hlen _ hsigO) hstack]
  intro acts
  rw [doInvoke_state]
  exact Steps.refl _
theorem g_specialRef {kx nx : Nat} (cx : Cx Z p s m meth c R kx nx own nm code maxL ret) {i W k' n' maxL' : Nat} {bytes : ByteArray} {ret' : Option FieldType} {rm : Room} {argsL : List Value} {Q' : Option Value → Heap → Prop} {y : MethodName} {a : Addr} (d : Dc code pc (.invokespecial i) 3 pc') (hyn : y.name = "<init>") (hr0 : ret' = none) (w1 : (Jvm.Cond.methodRef own i y).before a0 Z = true) (w2 : (Jvm.Cond.instanceMethod y).before a0 Z = true) (w3 : (Jvm.Cond.initialized y.cls).before a0 Z = true) (w4 : (Jvm.Cond.code y bytes maxL' ret').before a0 Z = true) (hy : y.cls ≠ "java/lang/invoke/MethodHandle" ∧ y.cls ≠ "java/lang/invoke/VarHandle") (M : Met l Z y bytes maxL' ret' rm (.ref a :: argsL).toArray h Q') (hsz : Ls.size = maxL) (hlen : ∀ sig, parseMethodDescriptor y.desc = some sig → argsL.length = sig.parameters.length) (hf : rm.frames + 1 ≤ R.frames) (hW : (rest.map fun v => v.category).sum ≤ W) (hl : W + (maxL' + 11) + rm.locals ≤ R.locals) (hk1 : k + rm.cells = k') (hn1 : n + rm.slots = n') (hkR : k' ≤ R.cells) (hnR : n' ≤ R.slots)
    (hst : st = argsL.reverse ++ .ref a :: rest) (H : ∀ v h', Q' v h' → G p l e R s m args below meth c Z.heap.size Q h' k' n' pc' Ls (v.toList ++ rest)) : G p l e R s m args below meth c Z.heap.size Q h k n pc Ls st := by
  obtain ⟨hx, hZ, hown, rfl, hml, hret, hnm, -⟩ := cx
  obtain ⟨d, rfl⟩ := d
  subst hk1 hn1 hst
  intro T locs cells slots X N eT hk hn
  subst hr0
  obtain ⟨v, ⟨T', L', k1', n1'⟩, X', ⟨Lc, hQ, l1, l2, l3⟩, stp⟩ := specialRef X hx hZ (y := y) hyn hown w1 w2 w4 hy (backOf (W := W) (Q := fun v h L => Q' v h ∧ Fr Z.heap.size L) (M []) hZ w4 w3 hf hl) (g := mkF m pc Ls (argsL.reverse ++ .ref a :: rest)) rfl (by rw [hml]; exact hsz) (a := a) (argsL := argsL) (rest := rest) hlen rfl (by show 2 * 0 + _ ≤ _; omega) d ⟨rfl, eT, (by show cells + rm.cells ≤ _; omega), (by show slots + rm.slots ≤ _; omega)⟩
  dsimp only [Pt.U, Pt.locs, Pt.cells, Pt.slots] at X' l1 l2 l3 stp hQ
  subst l1 l2 l3
  obtain ⟨s₂, o, st2, r⟩ := H v T'.heap hQ.1 T' _ _ _ X' (Fr.app N hQ.2) rfl (by omega) (by omega)
  exact ⟨s₂, o, stp.trans st2, r⟩
theorem g_lsw {kx nx : Nat} (cx : Cx Z p s m meth c R kx nx own nm code maxL ret) {x : Int32} {dflt : Int} {pairs : Array (Int × Int)} {len : Nat} (d : decode code pc = .ok (.lookupswitch dflt pairs, len)) (hs : (pairs.toList.zip (pairs.toList.drop 1)).all (fun (a, next) => a.1 < next.1) = true) {off : Int} (hf : ((pairs.find? (·.1 == x.toInt)).map (·.2)).getD dflt = off) (h0 : 0 ≤ (pc : Int) + off) (hp : ((pc : Int) + off).toNat = pc') (H : G p l e R s m args below meth c Z.heap.size Q h k n pc' Ls st) : G p l e R s m args below meth c Z.heap.size Q h k n pc Ls (.int x :: st) := by
  obtain ⟨hx, hZ, hown, rfl, hml, hret, hnm, -⟩ := cx
  subst hp
  intro T locs cells slots X N eT hk hn
  obtain ⟨s₂, o, st2, r⟩ := H T locs cells slots X N eT hk hn
  cases hq : pairs.find? (·.1 == x.toInt) with
  | none =>
    rw [hq] at hf
    have hf' : dflt = off := hf
    subst hf'
    exact ⟨s₂, o, X.lookupswitchMiss hx (g := mkF m pc Ls (.int x :: st)) rfl rfl d hs hq h0 _ st2, r⟩
  | some ao =>
    rw [hq] at hf
    have hf' : ao.2 = off := hf
    subst hf'
    exact ⟨s₂, o, X.lookupswitchHit hx (g := mkF m pc Ls (.int x :: st)) rfl rfl d hs (a := ao.1) (off := ao.2) hq h0 _ st2, r⟩
theorem lsw_miss {x : Int32} {dflt : Int} {pairs : Array (Int × Int)} (q : ∀ a ∈ pairs.toList, a.1 ≠ x.toInt) : ((pairs.find? (·.1 == x.toInt)).map (·.2)).getD dflt = dflt := by rw [find_miss q]; rfl
theorem g_aaloadR {kx nx : Nat} (cx : Cx Z p s m meth c R kx nx own nm code maxL ret) {a : Addr} {cl : Cell} {j : Int32} {v : Value} {ty : FieldType} (d : Dc code pc .aaload 1 pc') (A : Arr Z h a cl ty) (hty : ty.isReference = true) (hj : ¬ (j < 0 ∨ cl.slots.size ≤ j.toNatClampNeg)) (hv : cl.slots[j.toNatClampNeg]? = some v) (H : G p l e R s m args below meth c Z.heap.size Q h k n pc' Ls (v :: st)) : G p l e R s m args below meth c Z.heap.size Q h k n pc Ls (.int j :: .ref a :: st) := by
  obtain ⟨hx, hZ, hown, rfl, hml, hret, hnm, -⟩ := cx
  obtain ⟨d, rfl⟩ := d
  intro T locs cells slots X N eT hk hn
  obtain ⟨s₂, o, st2, r⟩ := H T _ cells slots X N eT hk hn
  exact ⟨s₂, o, X.aaload hx (j := j) (v := v) (by rw [eT]; exact A.1) (State.isArrayOf_alike hZ.alike A.2.1) hty A.2.2 hj hv (g := mkF m pc Ls (.int j :: .ref a :: st)) rfl rfl d _ st2, r⟩
theorem arr_len {t : Term} {a : Addr} {cl : Cell} {ty : FieldType} {z : Int32} (ev : t.eval args Z none [] Z = some (.ref a)) (A : Arr Z Z.heap a cl ty) (h3 : (Jvm.Cond.eq (.length t) (.int z)).value args Z none Z [] = some true) : cl.slots.size < 2 ^ 31 ∧ cl.slots.size.toInt32 = z := by
  have ex := eqv_i (F := .int z) rfl h3
  have A1 := A.fin (Vm.Alike.refl _)
  have hl : cl.slots.size < 2 ^ 31 := by
    refine Decidable.byContradiction fun hc => ?_
    simp [Term.eval, ev, A1, hc] at ex
  rw [len_f ev A1 hl] at ex
  exact ⟨hl, by simpa using ex⟩
theorem sta_arr {C f d : String} {ty : FieldType} {z : Int32} (hi : (Jvm.Cond.initializedFor C f d).before args Z = true ∨ ((Jvm.Cond.initialized C).before args Z = true ∧ (Jvm.Cond.laysStatic C f d).before args Z = true)) (h1 : (Jvm.Cond.arrayOf (.static C f d) ty).value args Z none Z [] = some true) (h3 : (Jvm.Cond.eq (.length (.static C f d)) (.int z)).value args Z none Z [] = some true) :
    ∃ a cl, Sta Z Z.heap C f d (.ref a) ∧ (Term.static C f d).eval args Z none [] Z = some (.ref a) ∧ Arr Z Z.heap a cl ty ∧ cl.slots.size < 2 ^ 31 ∧ cl.slots.size.toInt32 = z := by
  obtain ⟨a, ev⟩ := arr_v h1
  obtain ⟨cl, A⟩ := Arr.start ev h1
  obtain ⟨q1, q2⟩ := arr_len ev A h3
  exact ⟨a, cl, Sta.start ev hi, ev, A, q1, q2⟩
theorem fld_exa {t : Term} {C f d K : String} {a : Addr} (ev : t.eval args Z none [] Z = some (.ref a)) (h : (Jvm.Cond.exactly (.field t C f d) K).value args Z none Z [] = some true) : ∃ b, Fld Z Z.heap a C f d (.ref b) ∧ Exa Z Z.heap b K ∧ (Term.field t C f d).eval args Z none [] Z = some (.ref b) := by
  obtain ⟨b, eb⟩ := exa_v h
  exact ⟨b, Fld.start ((fld_at ev).symm.trans eb), Exa.start eb h, eb⟩
theorem fld_arr {t : Term} {C f d : String} {a : Addr} {ty : FieldType} {z : Int32} (ev : t.eval args Z none [] Z = some (.ref a)) (h : (Jvm.Cond.arrayOf (.field t C f d) ty).value args Z none Z [] = some true) (h3 : (Jvm.Cond.eq (.length (.field t C f d)) (.int z)).value args Z none Z [] = some true) : ∃ b cl, Fld Z Z.heap a C f d (.ref b) ∧ (Term.field t C f d).eval args Z none [] Z = some (.ref b) ∧ Arr Z Z.heap b cl ty ∧ cl.slots.size < 2 ^ 31 ∧ cl.slots.size.toInt32 = z := by
  obtain ⟨b, eb⟩ := arr_v h
  obtain ⟨cl, A⟩ := Arr.start eb h
  obtain ⟨q1, q2⟩ := arr_len eb A h3
  exact ⟨b, cl, Fld.start ((fld_at ev).symm.trans eb), eb, A, q1, q2⟩
theorem elem_eq {t : Term} {a : Addr} {cl : Cell} {ty : FieldType} {j v : Int32} (ev : t.eval args Z none [] Z = some (.ref a)) (A : Arr Z Z.heap a cl ty) (h : (Jvm.Cond.eq (.elem t (.int j)) (.int v)).value args Z none Z [] = some true) : cl.slots[j.toNatClampNeg]? = some (.int v) := (elem_in (eqv_i (F := .int v) rfl h) ev rfl A.1).2
theorem nar1 : nar .boolean 1 = 1 := rfl
theorem nar0 : nar .boolean 0 = 0 := rfl
theorem sta_exa {C f d K : String} (hx : (Jvm.Cond.exactly (.static C f d) K).value args Z none Z [] = some true) (wi : (Jvm.Cond.initialized C).before args Z = true) (wl : (Jvm.Cond.laysStatic C f d).before args Z = true) : ∃ a, Sta Z Z.heap C f d (.ref a) ∧ Exa Z Z.heap a K ∧ (Term.static C f d).eval args Z none [] Z = some (.ref a) := by
  obtain ⟨a, ev⟩ := exa_v hx
  exact ⟨a, Sta.start ev (Or.inr ⟨wi, wl⟩), Exa.start ev hx, ev⟩
theorem fld_eq {t : Term} {C f d : String} {a : Addr} {v : Int32} (ev : t.eval args Z none [] Z = some (.ref a)) (h : (Jvm.Cond.eq (.field t C f d) (.int v)).value args Z none Z [] = some true) : Fld Z Z.heap a C f d (.int v) := by
  obtain ⟨x, y, ex, ey, -, k2⟩ := cmp_v (Or.inl h)
  have e2 : y = .int v := by simpa [Term.eval] using ey.symm
  subst e2
  obtain ⟨z, rfl⟩ := k2
  have hz : z = v := by simpa [Cond.value, ex, ey] using h
  subst hz
  rw [fld_at ev] at ex
  exact Fld.start ex
theorem sta_int {C f d : String} (hi : (Jvm.Cond.initializedFor C f d).before args Z = true) (h1 : (Jvm.Cond.isInt (.static C f d)).before args Z = true) : ∃ v, Sta Z Z.heap C f d (.int v) ∧ (Term.static C f d).eval args Z none [] Z = some (.int v) := by
  obtain ⟨v, ev⟩ := is_v (Cond.before_iff.mp h1)
  exact ⟨v, Sta.start ev (Or.inl hi), ev⟩
theorem ne_of_not {t : Term} {z v : Int32} (ev : t.eval args Z none [] Z = some (.int z)) (h : (Jvm.Cond.not (.eq t (.int v))).before args Z = true) : ¬ z = v := by
  have h2 := not_v (Cond.before_iff.mp h)
  intro q
  subst q
  simp [Cond.value, ev, Term.eval] at h2
theorem own_lrem (x y : Int64) (d : Int) (hy : y.toInt = d) : (0 ≤ x.toInt → (x % y).toInt = x.toInt % d) ∧ (x.toInt < 0 → (x % y).toInt = -((-x.toInt) % d)) := by
  rw [← lrem_mod]; exact c_lrem x y d hy
end Walk
def ObO (Z : State) (h : Heap) (a : Addr) (v1 v2 v3 : Value) : Prop := Exa Z h a "com/example/egret/egret/service/Outcome" ∧ Fld Z h a "com/example/egret/egret/service/Outcome" "status" "I" v1 ∧ Fld Z h a "com/example/egret/egret/service/Outcome" "name" "Ljava/lang/String;" v2 ∧ Fld Z h a "com/example/egret/egret/service/Outcome" "description" "Ljava/lang/String;" v3
theorem ObO.ext {h' : Heap} {Z : State} {h : Heap} {a : Addr} {v1 v2 v3 : Value} (F : ObO Z h a v1 v2 v3) (E : Ext h h') : ObO Z h' a v1 v2 v3 := ⟨F.1.ext E, F.2.1.ext E, F.2.2.1.ext E, F.2.2.2.ext E⟩
theorem ObO.keep {h' : Heap} {Z : State} {h : Heap} {a : Addr} {v1 v2 v3 : Value} {ws : List Addr} (F : ObO Z h a v1 v2 v3) (K : Keep h h' ws) (q : a ∉ ws) : ObO Z h' a v1 v2 v3 := ⟨F.1.keep K, F.2.1.keep K q, F.2.2.1.keep K q, F.2.2.2.keep K q⟩
theorem ObO.oth {x : Addr} {sl : Nat} {w : Value} {h' : Heap} {Z : State} {h : Heap} {a : Addr} {v1 v2 v3 : Value} (F : ObO Z h a v1 v2 v3) (W : Wr h h' x sl w) (q : a ≠ x) : ObO Z h' a v1 v2 v3 := ⟨F.1.wr W, F.2.1.other W (Or.inl q), F.2.2.1.other W (Or.inl q), F.2.2.2.other W (Or.inl q)⟩
theorem ObO.lt {Z : State} {h : Heap} {a : Addr} {v1 v2 v3 : Value} (F : ObO Z h a v1 v2 v3) : a < h.size := F.1.lt
theorem ObO.put1 {v : Value} {h' : Heap} {Z : State} {h : Heap} {a : Addr} {v1 v2 v3 : Value} {a0 : Array Value} (hw : ∀ d ∈ tables_1, d.before a0 Z = true) (F : ObO Z h a v1 v2 v3) (W : Wr h h' a (Jvm.RoadKit.slotOf Z "com/example/egret/egret/service/Outcome" "status" "I") v) : ObO Z h' a v v2 v3 := ⟨F.1.wr W, F.2.1.same W, F.2.2.1.other W (Or.inr (slot_ne (Or.inr (hw _ (List.mem_of_getElem? (i := 46) rfl))) (Or.inr (hw _ (List.mem_of_getElem? (i := 44) rfl))) (by decide) (t := (.object "java/lang/String")) (t' := .int) (by decide) (by decide))), F.2.2.2.other W (Or.inr (slot_ne (Or.inr (hw _ (List.mem_of_getElem? (i := 48) rfl))) (Or.inr (hw _ (List.mem_of_getElem? (i := 44) rfl))) (by decide) (t := (.object "java/lang/String")) (t' := .int) (by decide) (by decide)))⟩
theorem ObO.put2 {v : Value} {h' : Heap} {Z : State} {h : Heap} {a : Addr} {v1 v2 v3 : Value} {a0 : Array Value} (hw : ∀ d ∈ tables_1, d.before a0 Z = true) (F : ObO Z h a v1 v2 v3) (W : Wr h h' a (Jvm.RoadKit.slotOf Z "com/example/egret/egret/service/Outcome" "name" "Ljava/lang/String;") v) : ObO Z h' a v1 v v3 := ⟨F.1.wr W, F.2.1.other W (Or.inr (slot_ne (Or.inr (hw _ (List.mem_of_getElem? (i := 44) rfl))) (Or.inr (hw _ (List.mem_of_getElem? (i := 46) rfl))) (by decide) (t := .int) (t' := (.object "java/lang/String")) (by decide) (by decide))), F.2.2.1.same W, F.2.2.2.other W (Or.inr (slot_ne (Or.inr (hw _ (List.mem_of_getElem? (i := 48) rfl))) (Or.inr (hw _ (List.mem_of_getElem? (i := 46) rfl))) (by decide) (t := (.object "java/lang/String")) (t' := (.object "java/lang/String")) (by decide) (by decide)))⟩
theorem ObO.put3 {v : Value} {h' : Heap} {Z : State} {h : Heap} {a : Addr} {v1 v2 v3 : Value} {a0 : Array Value} (hw : ∀ d ∈ tables_1, d.before a0 Z = true) (F : ObO Z h a v1 v2 v3) (W : Wr h h' a (Jvm.RoadKit.slotOf Z "com/example/egret/egret/service/Outcome" "description" "Ljava/lang/String;") v) : ObO Z h' a v1 v2 v := ⟨F.1.wr W, F.2.1.other W (Or.inr (slot_ne (Or.inr (hw _ (List.mem_of_getElem? (i := 44) rfl))) (Or.inr (hw _ (List.mem_of_getElem? (i := 48) rfl))) (by decide) (t := .int) (t' := (.object "java/lang/String")) (by decide) (by decide))), F.2.2.1.other W (Or.inr (slot_ne (Or.inr (hw _ (List.mem_of_getElem? (i := 46) rfl))) (Or.inr (hw _ (List.mem_of_getElem? (i := 48) rfl))) (by decide) (t := (.object "java/lang/String")) (t' := (.object "java/lang/String")) (by decide) (by decide))), F.2.2.2.same W⟩
theorem ObO.new {Z : State} {h : Heap} {b : Addr} {a0 : Array Value} (hw : ∀ d ∈ tables_1, d.before a0 Z = true) (E : Exa Z h b "com/example/egret/egret/service/Outcome") (D : ∀ {O nm d : String} {ty : FieldType}, Laid Z a0 "com/example/egret/egret/service/Outcome" O nm d → parseFieldDescriptor d = some ty → Fld Z h b O nm d (defaultValue ty)) : ObO Z h b (.int (0 : Int32)) .null .null := ⟨E, D (Or.inr (hw _ (List.mem_of_getElem? (i := 44) rfl))) (ty := .int) (by decide), D (Or.inr (hw _ (List.mem_of_getElem? (i := 46) rfl))) (ty := (.object "java/lang/String")) (by decide), D (Or.inr (hw _ (List.mem_of_getElem? (i := 48) rfl))) (ty := (.object "java/lang/String")) (by decide)⟩
def ObS (Z : State) (h : Heap) (a : Addr) (v1 v2 : Value) : Prop := Exa Z h a "java/lang/String" ∧ Fld Z h a "java/lang/String" "coder" "B" v1 ∧ Fld Z h a "java/lang/String" "value" "[B" v2
theorem ObS.ext {h' : Heap} {Z : State} {h : Heap} {a : Addr} {v1 v2 : Value} (F : ObS Z h a v1 v2) (E : Ext h h') : ObS Z h' a v1 v2 := ⟨F.1.ext E, F.2.1.ext E, F.2.2.ext E⟩
theorem ObS.keep {h' : Heap} {Z : State} {h : Heap} {a : Addr} {v1 v2 : Value} {ws : List Addr} (F : ObS Z h a v1 v2) (K : Keep h h' ws) (q : a ∉ ws) : ObS Z h' a v1 v2 := ⟨F.1.keep K, F.2.1.keep K q, F.2.2.keep K q⟩
theorem ObS.oth {x : Addr} {sl : Nat} {w : Value} {h' : Heap} {Z : State} {h : Heap} {a : Addr} {v1 v2 : Value} (F : ObS Z h a v1 v2) (W : Wr h h' x sl w) (q : a ≠ x) : ObS Z h' a v1 v2 := ⟨F.1.wr W, F.2.1.other W (Or.inl q), F.2.2.other W (Or.inl q)⟩
theorem ObS.lt {Z : State} {h : Heap} {a : Addr} {v1 v2 : Value} (F : ObS Z h a v1 v2) : a < h.size := F.1.lt
theorem ObS.put1 {v : Value} {h' : Heap} {Z : State} {h : Heap} {a : Addr} {v1 v2 : Value} {a0 : Array Value} (hw : ∀ d ∈ tables_1, d.before a0 Z = true) (F : ObS Z h a v1 v2) (W : Wr h h' a (Jvm.RoadKit.slotOf Z "java/lang/String" "coder" "B") v) : ObS Z h' a v v2 := ⟨F.1.wr W, F.2.1.same W, F.2.2.other W (Or.inr (slot_ne (Or.inr (hw _ (List.mem_of_getElem? (i := 33) rfl))) (Or.inr (hw _ (List.mem_of_getElem? (i := 31) rfl))) (by decide) (t := (.array .byte)) (t' := .byte) (by decide) (by decide)))⟩
theorem ObS.put2 {v : Value} {h' : Heap} {Z : State} {h : Heap} {a : Addr} {v1 v2 : Value} {a0 : Array Value} (hw : ∀ d ∈ tables_1, d.before a0 Z = true) (F : ObS Z h a v1 v2) (W : Wr h h' a (Jvm.RoadKit.slotOf Z "java/lang/String" "value" "[B") v) : ObS Z h' a v1 v := ⟨F.1.wr W, F.2.1.other W (Or.inr (slot_ne (Or.inr (hw _ (List.mem_of_getElem? (i := 31) rfl))) (Or.inr (hw _ (List.mem_of_getElem? (i := 33) rfl))) (by decide) (t := .byte) (t' := (.array .byte)) (by decide) (by decide))), F.2.2.same W⟩
theorem ObS.new {Z : State} {h : Heap} {b : Addr} {a0 : Array Value} (hw : ∀ d ∈ tables_1, d.before a0 Z = true) (E : Exa Z h b "java/lang/String") (D : ∀ {O nm d : String} {ty : FieldType}, Laid Z a0 "java/lang/String" O nm d → parseFieldDescriptor d = some ty → Fld Z h b O nm d (defaultValue ty)) : ObS Z h b (.int (0 : Int32)) .null := ⟨E, D (Or.inr (hw _ (List.mem_of_getElem? (i := 31) rfl))) (ty := .byte) (by decide), D (Or.inr (hw _ (List.mem_of_getElem? (i := 33) rfl))) (ty := (.array .byte)) (by decide)⟩
theorem d8_0 : Dc jdk_30_method_1_code 0 (.aload_n 0) 1 1 := ⟨by decide +kernel, rfl⟩
theorem d8_1 : Dc jdk_30_method_1_code 1 (.invokespecial 1) 3 4 := ⟨by decide +kernel, rfl⟩
theorem d8_4 : Dc jdk_30_method_1_code 4 (.return_) 1 5 := ⟨by decide +kernel, rfl⟩
theorem pn_rm1 : plainName "java/lang/Record" = true := by first | (simp [plainName, overriddenIn]; done) | decide +kernel
set_option maxRecDepth 65536 in
set_option maxHeartbeats 40000000 in
theorem rm1 (l : Launch) (Z : State) (a0 : Array Value) (hw : ∀ d ∈ tables_1, d.before a0 Z = true) (a : Addr) (h0 : Heap) :
    Met l Z (⟨"java/lang/Record", "<init>", "()V"⟩ : MethodName) jdk_30_method_1_code 1 none ({ frames := 1, cells := 0, slots := 0, locals := 12 } : Room) #[(.ref a)] h0 (fun v h' => v = none ∧ h0 = h') := by
  refine met_of (Ls := #[.val (.ref a)]) (plainFor_of_name pn_rm1) (fun m => by first | (simp [entryFrame, mkF, argsToLocals, Value.category]; done) | rfl) (fun p e s m below meth c cx => ?_)
  refine g_aloadN cx d8_0 rfl rfl ?_
  refine g_initO cx d8_1 (hw _ (List.mem_of_getElem? (i := 42) rfl)) (hw _ (List.mem_of_getElem? (i := 16) rfl)) (hw _ (List.mem_of_getElem? (i := 17) rfl)) rfl (by decide) (W := 0) (Nat.le_of_eq rfl) (by decide) ?_
  refine g_retV cx d8_4 rfl (by decide) (by decide) ?_
  exact ⟨rfl, rfl⟩
theorem d0_0 : Dc code 0 (.iload_n 1) 1 1 := ⟨by decide +kernel, rfl⟩
theorem d0_1 : Dc code 1 (.iconst 1) 1 2 := ⟨by decide +kernel, rfl⟩
theorem d0_2 : Dc code 2 (.iand) 1 3 := ⟨by decide +kernel, rfl⟩
theorem d0_3 : Bi code 3 (Instr.ifCond .eq) 22 6 := ⟨19, by decide +kernel, by decide, by decide, rfl⟩
theorem d0_22 : Dc code 22 (.iload_n 0) 1 23 := ⟨by decide +kernel, rfl⟩
theorem d0_23 : Dc code 23 (.istore 4) 2 25 := ⟨by decide +kernel, rfl⟩
theorem d0_25 : Dc code 25 (.iconst 1) 1 26 := ⟨by decide +kernel, rfl⟩
theorem d0_26 : Dc code 26 (.newarray .char) 2 28 := ⟨by decide +kernel, rfl⟩
theorem d0_28 : Dc code 28 (.astore 5) 2 30 := ⟨by decide +kernel, rfl⟩
theorem d0_30 : Dc code 30 (.aload 5) 2 32 := ⟨by decide +kernel, rfl⟩
theorem d0_32 : Dc code 32 (.iconst 0) 1 33 := ⟨by decide +kernel, rfl⟩
theorem d0_33 : Dc code 33 (.iload_n 2) 1 34 := ⟨by decide +kernel, rfl⟩
theorem d0_34 : Dc code 34 (.sipush 255) 3 37 := ⟨by decide +kernel, rfl⟩
theorem d0_37 : Dc code 37 (.iand) 1 38 := ⟨by decide +kernel, rfl⟩
theorem d0_38 : Dc code 38 (.i2c) 1 39 := ⟨by decide +kernel, rfl⟩
theorem d0_39 : Dc code 39 (.castore) 1 40 := ⟨by decide +kernel, rfl⟩
theorem d0_40 : Dc code 40 (.iconst 1) 1 41 := ⟨by decide +kernel, rfl⟩
theorem d0_41 : Dc code 41 (.newarray .char) 2 43 := ⟨by decide +kernel, rfl⟩
theorem d0_43 : Dc code 43 (.astore 6) 2 45 := ⟨by decide +kernel, rfl⟩
theorem d0_45 : Dc code 45 (.aload 6) 2 47 := ⟨by decide +kernel, rfl⟩
theorem d0_47 : Dc code 47 (.iconst 0) 1 48 := ⟨by decide +kernel, rfl⟩
theorem d0_48 : Dc code 48 (.iload_n 3) 1 49 := ⟨by decide +kernel, rfl⟩
theorem d0_49 : Dc code 49 (.sipush 255) 3 52 := ⟨by decide +kernel, rfl⟩
theorem d0_52 : Dc code 52 (.iand) 1 53 := ⟨by decide +kernel, rfl⟩
theorem d0_53 : Dc code 53 (.i2c) 1 54 := ⟨by decide +kernel, rfl⟩
theorem d0_54 : Dc code 54 (.castore) 1 55 := ⟨by decide +kernel, rfl⟩
theorem d0_55 : Dc code 55 (.new 8) 3 58 := ⟨by decide +kernel, rfl⟩
theorem d0_58 : Dc code 58 (.dup) 1 59 := ⟨by decide +kernel, rfl⟩
theorem d0_59 : Dc code 59 (.iload 4) 2 61 := ⟨by decide +kernel, rfl⟩
theorem d0_61 : Dc code 61 (.new 10) 3 64 := ⟨by decide +kernel, rfl⟩
theorem d0_64 : Dc code 64 (.dup) 1 65 := ⟨by decide +kernel, rfl⟩
theorem d0_65 : Dc code 65 (.aload 5) 2 67 := ⟨by decide +kernel, rfl⟩
theorem d1_0 : Dc jdk_42_method_3_code 0 (.aload_n 0) 1 1 := ⟨by decide +kernel, rfl⟩
theorem d1_1 : Dc jdk_42_method_3_code 1 (.aload_n 1) 1 2 := ⟨by decide +kernel, rfl⟩
theorem d1_2 : Dc jdk_42_method_3_code 2 (.iconst 0) 1 3 := ⟨by decide +kernel, rfl⟩
theorem d1_3 : Dc jdk_42_method_3_code 3 (.aload_n 1) 1 4 := ⟨by decide +kernel, rfl⟩
theorem d1_4 : Dc jdk_42_method_3_code 4 (.arraylength) 1 5 := ⟨by decide +kernel, rfl⟩
theorem d1_5 : Dc jdk_42_method_3_code 5 (.aconst_null) 1 6 := ⟨by decide +kernel, rfl⟩
theorem d2_0 : Dc jdk_42_method_149_code 0 (.aload_n 0) 1 1 := ⟨by decide +kernel, rfl⟩
theorem d2_1 : Dc jdk_42_method_149_code 1 (.invokespecial 1) 3 4 := ⟨by decide +kernel, rfl⟩
theorem d2_4 : Dc jdk_42_method_149_code 4 (.iload_n 3) 1 5 := ⟨by decide +kernel, rfl⟩
theorem d2_5 : Bi jdk_42_method_149_code 5 (Instr.ifCond .ne) 27 8 := ⟨22, by decide +kernel, by decide, by decide, rfl⟩
theorem d2_27 : Dc jdk_42_method_149_code 27 (.getstatic 38) 3 30 := ⟨by decide +kernel, rfl⟩
theorem d2_30 : Bi jdk_42_method_149_code 30 (Instr.ifCond .eq) 58 33 := ⟨28, by decide +kernel, by decide, by decide, rfl⟩
theorem d2_33 : Dc jdk_42_method_149_code 33 (.aload_n 1) 1 34 := ⟨by decide +kernel, rfl⟩
theorem d2_34 : Dc jdk_42_method_149_code 34 (.iload_n 2) 1 35 := ⟨by decide +kernel, rfl⟩
theorem d2_35 : Dc jdk_42_method_149_code 35 (.iload_n 3) 1 36 := ⟨by decide +kernel, rfl⟩
theorem d4_0 : Dc jdk_52_method_16_code 0 (.iload_n 2) 1 1 := ⟨by decide +kernel, rfl⟩
theorem d4_1 : Dc jdk_52_method_16_code 1 (.newarray .byte) 2 3 := ⟨by decide +kernel, rfl⟩
theorem d4_3 : Dc jdk_52_method_16_code 3 (.astore_n 3) 1 4 := ⟨by decide +kernel, rfl⟩
theorem d4_4 : Dc jdk_52_method_16_code 4 (.aload_n 0) 1 5 := ⟨by decide +kernel, rfl⟩
theorem d4_5 : Dc jdk_52_method_16_code 5 (.iload_n 1) 1 6 := ⟨by decide +kernel, rfl⟩
theorem d4_6 : Dc jdk_52_method_16_code 6 (.aload_n 3) 1 7 := ⟨by decide +kernel, rfl⟩
theorem d4_7 : Dc jdk_52_method_16_code 7 (.iconst 0) 1 8 := ⟨by decide +kernel, rfl⟩
theorem d4_8 : Dc jdk_52_method_16_code 8 (.iload_n 2) 1 9 := ⟨by decide +kernel, rfl⟩
theorem d5_0 : Dc jdk_52_method_21_code 0 (.iconst 0) 1 1 := ⟨by decide +kernel, rfl⟩
theorem d5_1 : Dc jdk_52_method_21_code 1 (.istore 5) 2 3 := ⟨by decide +kernel, rfl⟩
theorem d5_3 : Dc jdk_52_method_21_code 3 (.iload 5) 2 5 := ⟨by decide +kernel, rfl⟩
theorem d5_5 : Dc jdk_52_method_21_code 5 (.iload 4) 2 7 := ⟨by decide +kernel, rfl⟩
theorem d5_7 : Bi jdk_52_method_21_code 7 (Instr.if_icmp .ge) 44 10 := ⟨37, by decide +kernel, by decide, by decide, rfl⟩
theorem d5_10 : Dc jdk_52_method_21_code 10 (.aload_n 0) 1 11 := ⟨by decide +kernel, rfl⟩
theorem d5_11 : Dc jdk_52_method_21_code 11 (.iload_n 1) 1 12 := ⟨by decide +kernel, rfl⟩
theorem d5_12 : Dc jdk_52_method_21_code 12 (.caload) 1 13 := ⟨by decide +kernel, rfl⟩
theorem d5_13 : Dc jdk_52_method_21_code 13 (.istore 6) 2 15 := ⟨by decide +kernel, rfl⟩
theorem d5_15 : Dc jdk_52_method_21_code 15 (.iload 6) 2 17 := ⟨by decide +kernel, rfl⟩
theorem d5_17 : Dc jdk_52_method_21_code 17 (.sipush 255) 3 20 := ⟨by decide +kernel, rfl⟩
theorem d5_20 : Bi jdk_52_method_21_code 20 (Instr.if_icmp .le) 26 23 := ⟨6, by decide +kernel, by decide, by decide, rfl⟩
theorem d5_26 : Dc jdk_52_method_21_code 26 (.aload_n 2) 1 27 := ⟨by decide +kernel, rfl⟩
theorem d5_27 : Dc jdk_52_method_21_code 27 (.iload_n 3) 1 28 := ⟨by decide +kernel, rfl⟩
theorem d5_28 : Dc jdk_52_method_21_code 28 (.iload 6) 2 30 := ⟨by decide +kernel, rfl⟩
theorem d5_30 : Dc jdk_52_method_21_code 30 (.i2b) 1 31 := ⟨by decide +kernel, rfl⟩
theorem d5_31 : Dc jdk_52_method_21_code 31 (.bastore) 1 32 := ⟨by decide +kernel, rfl⟩
theorem d5_32 : Dc jdk_52_method_21_code 32 (.iinc 1 1) 3 35 := ⟨by decide +kernel, rfl⟩
theorem d5_35 : Dc jdk_52_method_21_code 35 (.iinc 3 1) 3 38 := ⟨by decide +kernel, rfl⟩
theorem d5_38 : Dc jdk_52_method_21_code 38 (.iinc 5 1) 3 41 := ⟨by decide +kernel, rfl⟩
theorem d5_41 : Bi jdk_52_method_21_code 41 (Instr.goto) 3 44 := ⟨(-38), by decide +kernel, by decide, by decide, rfl⟩
theorem d5_44 : Dc jdk_52_method_21_code 44 (.iload 4) 2 46 := ⟨by decide +kernel, rfl⟩
theorem d5_46 : Dc jdk_52_method_21_code 46 (.ireturn) 1 47 := ⟨by decide +kernel, rfl⟩
theorem pn_ra4 : plainName "java/lang/StringUTF16" = true := by first | (simp [plainName, overriddenIn]; done) | decide +kernel
set_option maxRecDepth 65536 in
set_option maxHeartbeats 40000000 in
theorem ra4 (l : Launch) (Z : State) (a0 : Array Value) (hw : ∀ d ∈ tables_1, d.before a0 Z = true) (ad0 ad1 : Addr) (x0 : Int32) (cA_ad0 : ClassId) (cA_ad1 : ClassId) (h0 : Heap) (A_ad0 : Arx Z h0 ad0 cA_ad0 .char (1 : Int32) [(.int (nar .char (((x0 &&& (255 : Int32))).toUInt32.toUInt16.toUInt32.toInt32)))] (.int (0 : Int32)) "[C") (A_ad1 : Arx Z h0 ad1 cA_ad1 .byte (1 : Int32) [(.int (0 : Int32))] (.int (0 : Int32)) "[B") (ne_ad0_ad1 : ad0 ≠ ad1) (g_ad0 : Z.heap.size ≤ ad0) (g_ad1 : Z.heap.size ≤ ad1) (OL : Old Z Z.heap.size h0) (cs : Int32) (SCS : Sta Z Z.heap "java/lang/String" "COMPACT_STRINGS" "Z" (.int cs)) (ncs : ¬ cs = 0) :
    Met l Z (⟨"java/lang/StringUTF16", "compress", "([CI[BII)I"⟩ : MethodName) jdk_52_method_21_code 7 (some .int) ({ frames := 0, cells := 0, slots := 0, locals := 0 } : Room) #[(.ref ad0), (.int (0 : Int32)), (.ref ad1), (.int (0 : Int32)), (.int (1 : Int32))] h0 (fun v h' => (¬ ((255 : Int32) < (nar .char (((x0 &&& (255 : Int32))).toUInt32.toUInt16.toUInt32.toInt32))) ∧ v = some (.int (1 : Int32)) ∧ Keep h0 h' [ad1] ∧ Arx Z h' ad1 cA_ad1 .byte (1 : Int32) [(.int (nar .byte (((nar .char (((x0 &&& (255 : Int32))).toUInt32.toUInt16.toUInt32.toInt32))).toInt8.toInt32)))] (.int (0 : Int32)) "[B")) := by
  refine met_of (Ls := #[.val (.ref ad0), .val (.int (0 : Int32)), .val (.ref ad1), .val (.int (0 : Int32)), .val (.int (1 : Int32)), .unset, .unset]) (plainFor_of_name pn_ra4) (fun m => by first | (simp [entryFrame, mkF, argsToLocals, Value.category]; done) | rfl) (fun p e s m below meth c cx => ?_)
  have KK := Keep.refl h0 [ad1]
  refine g_iconst cx d5_0 (v := (0 : Int32)) rfl ?_
  refine g_istore cx d5_1 (Ls' := #[.val (.ref ad0), .val (.int (0 : Int32)), .val (.ref ad1), .val (.int (0 : Int32)), .val (.int (1 : Int32)), .val (.int (0 : Int32)), .unset]) rfl ?_
  refine g_iload cx d5_3 rfl ?_
  refine g_iload cx d5_5 rfl ?_
  refine g_icmp_ge cx d5_7 (fun q => absurd q (fun q => by revert q; decide)) (fun hc7 => ?_)
  refine g_aloadN cx d5_10 rfl rfl ?_
  refine g_iloadN cx d5_11 rfl ?_
  refine g_caload cx d5_12 A_ad0.1 ⟨by decide, by decide⟩ (v := (.int (nar .char (((x0 &&& (255 : Int32))).toUInt32.toUInt16.toUInt32.toInt32)))) rfl ?_
  refine g_istore cx d5_13 (Ls' := #[.val (.ref ad0), .val (.int (0 : Int32)), .val (.ref ad1), .val (.int (0 : Int32)), .val (.int (1 : Int32)), .val (.int (0 : Int32)), .val (.int (nar .char (((x0 &&& (255 : Int32))).toUInt32.toUInt16.toUInt32.toInt32)))]) rfl ?_
  refine g_iload cx d5_15 rfl ?_
  refine g_sipush cx d5_17 (v := (255 : Int32)) rfl ?_
  refine g_icmp_le cx d5_20 (fun hc20 => ?_) (fun q => absurd q (fun q => by have i_q : ((255 : Int32)).toInt < ((nar .char (((x0 &&& (255 : Int32))).toUInt32.toUInt16.toUInt32.toInt32))).toInt := Int32.lt_iff_toInt_lt.mp q; have e1 : (255 : Int32).toInt = 255 := rfl; have r5 := rng32 x0; have e4 : ((x0 &&& (255 : Int32))).toInt = (x0).toInt % 256 := c_mask x0 (255 : Int32) 8 (by decide) (by decide); have e3 := c_i2c (x0 &&& (255 : Int32)); have e2 : (((nar .char (((x0 &&& (255 : Int32))).toUInt32.toUInt16.toUInt32.toInt32))).toInt - ((((x0 &&& (255 : Int32))).toUInt32.toUInt16.toUInt32.toInt32)).toInt) % 65536 = 0 ∧ 0 ≤ ((nar .char (((x0 &&& (255 : Int32))).toUInt32.toUInt16.toUInt32.toInt32))).toInt ∧ ((nar .char (((x0 &&& (255 : Int32))).toUInt32.toUInt16.toUInt32.toInt32))).toInt < 65536 := c_i2c (((x0 &&& (255 : Int32))).toUInt32.toUInt16.toUInt32.toInt32); omega))
  refine g_aloadN cx d5_26 rfl rfl ?_
  refine g_iloadN cx d5_27 rfl ?_
  refine g_iload cx d5_28 rfl ?_
  refine g_i2b cx d5_30 ?_
  refine g_bastore cx d5_31 A_ad1 ⟨by decide, by decide⟩ (by decide) g_ad1 (fun h1 W2 AA3 => ?_)
  have A_ad0 := A_ad0.other W2 ne_ad0_ad1
  have A_ad1 : Arx Z h1 ad1 cA_ad1 .byte (1 : Int32) [(.int (nar .byte (((nar .char (((x0 &&& (255 : Int32))).toUInt32.toUInt16.toUInt32.toInt32))).toInt8.toInt32)))] (.int (0 : Int32)) "[B" := AA3
  have OL := OL.wr W2 g_ad1
  have KK := KK.wr W2 (Or.inl (List.mem_of_getElem? (i := 0) rfl))
  refine g_iinc cx d5_32 rfl (v := (1 : Int32)) rfl (Ls' := #[.val (.ref ad0), .val (.int (1 : Int32)), .val (.ref ad1), .val (.int (0 : Int32)), .val (.int (1 : Int32)), .val (.int (0 : Int32)), .val (.int (nar .char (((x0 &&& (255 : Int32))).toUInt32.toUInt16.toUInt32.toInt32)))]) rfl ?_
  refine g_iinc cx d5_35 rfl (v := (1 : Int32)) rfl (Ls' := #[.val (.ref ad0), .val (.int (1 : Int32)), .val (.ref ad1), .val (.int (1 : Int32)), .val (.int (1 : Int32)), .val (.int (0 : Int32)), .val (.int (nar .char (((x0 &&& (255 : Int32))).toUInt32.toUInt16.toUInt32.toInt32)))]) rfl ?_
  refine g_iinc cx d5_38 rfl (v := (1 : Int32)) rfl (Ls' := #[.val (.ref ad0), .val (.int (1 : Int32)), .val (.ref ad1), .val (.int (1 : Int32)), .val (.int (1 : Int32)), .val (.int (1 : Int32)), .val (.int (nar .char (((x0 &&& (255 : Int32))).toUInt32.toUInt16.toUInt32.toInt32)))]) rfl ?_
  refine g_goto cx d5_41 ?_
  refine g_iload cx d5_3 rfl ?_
  refine g_iload cx d5_5 rfl ?_
  refine g_icmp_ge cx d5_7 (fun hc7x => ?_) (fun q => absurd q (fun q => by revert q; decide))
  refine g_iload cx d5_44 rfl ?_
  refine g_retI cx d5_46 rfl (by decide) (by decide) ?_
  exact ⟨hc20, rfl, KK, A_ad1⟩
theorem pd_0 : parseMethodDescriptor "([CI[BII)I" = some ⟨[(.array .char), .int, (.array .byte), .int, .int], some .int⟩ := by decide +kernel
theorem d4_9 : Dc jdk_52_method_16_code 9 (.invokestatic 115) 3 12 := ⟨by decide +kernel, rfl⟩
theorem d4_12 : Dc jdk_52_method_16_code 12 (.istore 4) 2 14 := ⟨by decide +kernel, rfl⟩
theorem d4_14 : Dc jdk_52_method_16_code 14 (.iload 4) 2 16 := ⟨by decide +kernel, rfl⟩
theorem d4_16 : Dc jdk_52_method_16_code 16 (.iload_n 2) 1 17 := ⟨by decide +kernel, rfl⟩
theorem d4_17 : Bi jdk_52_method_16_code 17 (Instr.if_icmp .eq) 57 20 := ⟨40, by decide +kernel, by decide, by decide, rfl⟩
theorem d4_57 : Dc jdk_52_method_16_code 57 (.aload_n 3) 1 58 := ⟨by decide +kernel, rfl⟩
theorem d4_58 : Dc jdk_52_method_16_code 58 (.areturn) 1 59 := ⟨by decide +kernel, rfl⟩
theorem pn_ra3 : plainName "java/lang/StringUTF16" = true := by first | (simp [plainName, overriddenIn]; done) | decide +kernel
set_option maxRecDepth 65536 in
set_option maxHeartbeats 40000000 in
theorem ra3 (l : Launch) (Z : State) (a0 : Array Value) (hw : ∀ d ∈ tables_1, d.before a0 Z = true) (ad0 : Addr) (x0 : Int32) (cA_ad0 : ClassId) (h0 : Heap) (A_ad0 : Arx Z h0 ad0 cA_ad0 .char (1 : Int32) [(.int (nar .char (((x0 &&& (255 : Int32))).toUInt32.toUInt16.toUInt32.toInt32)))] (.int (0 : Int32)) "[C") (g_ad0 : Z.heap.size ≤ ad0) (OL : Old Z Z.heap.size h0) (cs : Int32) (SCS : Sta Z Z.heap "java/lang/String" "COMPACT_STRINGS" "Z" (.int cs)) (ncs : ¬ cs = 0) :
    Met l Z (⟨"java/lang/StringUTF16", "compress", "([CII)[B"⟩ : MethodName) jdk_52_method_16_code 6 (some (.array .byte)) ({ frames := 1, cells := 1, slots := 1, locals := 18 } : Room) #[(.ref ad0), (.int (0 : Int32)), (.int (1 : Int32))] h0 (fun v h' => (∃ (b2 : Addr) (cA3 : ClassId) , ¬ ((255 : Int32) < (nar .char (((x0 &&& (255 : Int32))).toUInt32.toUInt16.toUInt32.toInt32))) ∧ v = some (.ref b2) ∧ Keep h0 h' [] ∧ h0.size ≤ b2 ∧ Arx Z h' b2 cA3 .byte (1 : Int32) [(.int (nar .byte (((nar .char (((x0 &&& (255 : Int32))).toUInt32.toUInt16.toUInt32.toInt32))).toInt8.toInt32)))] (.int (0 : Int32)) "[B")) := by
  refine met_of (Ls := #[.val (.ref ad0), .val (.int (0 : Int32)), .val (.int (1 : Int32)), .unset, .unset, .unset]) (plainFor_of_name pn_ra3) (fun m => by first | (simp [entryFrame, mkF, argsToLocals, Value.category]; done) | rfl) (fun p e s m below meth c cx => ?_)
  have KK := Keep.refl h0 []
  refine g_iloadN cx d4_0 rfl ?_
  refine g_newarray cx (ad := "[B") (by decide) d4_1 (hw _ (List.mem_of_getElem? (i := 23) rfl)) (by decide) (cap := 1) (by decide) (by decide) (k' := 1) (n' := 1) rfl rfl (by decide) (by decide) (fun h1 b2 cA3 gb4 E5 X6 => ?_)
  have ne_ad0_b2 : ad0 ≠ b2 := Nat.ne_of_lt (by rw [gb4]; exact A_ad0.lt)
  have g_b2 : Z.heap.size ≤ b2 := by rw [gb4]; exact OL.2.1
  have sz_b2 := (by rw [gb4]; exact KK.1 : h0.size ≤ b2)
  have A_ad0 := A_ad0.ext E5
  have OL := OL.ext E5
  have KK := KK.ext E5
  have A_b2 : Arx Z h1 b2 cA3 .byte (1 : Int32) [(.int (0 : Int32))] (.int (0 : Int32)) "[B" := X6.pad (pad_rep [] (.int (0 : Int32)) 1)
  refine g_astoreN cx d4_3 rfl (Ls' := #[.val (.ref ad0), .val (.int (0 : Int32)), .val (.int (1 : Int32)), .val (.ref b2), .unset, .unset]) rfl ?_
  refine g_aloadN cx d4_4 rfl rfl ?_
  refine g_iloadN cx d4_5 rfl ?_
  refine g_aloadN cx d4_6 rfl rfl ?_
  refine g_iconst cx d4_7 (v := (0 : Int32)) rfl ?_
  refine g_iloadN cx d4_8 rfl ?_
  refine g_static cx (y := (⟨"java/lang/StringUTF16", "compress", "([CI[BII)I"⟩ : MethodName)) d4_9 (hw _ (List.mem_of_getElem? (i := 24) rfl)) (hw _ (List.mem_of_getElem? (i := 25) rfl)) (hw _ (List.mem_of_getElem? (i := 21) rfl)) (hw _ (List.mem_of_getElem? (i := 26) rfl)) (by decide) (bytes := jdk_52_method_21_code) (maxL' := 7) (M := (ra4 l Z a0 hw ad0 b2 x0 cA_ad0 cA3 _ A_ad0 A_b2 ne_ad0_b2 g_ad0 g_b2 OL cs SCS ncs)) rfl (lenOf pd_0 rfl) (by decide) (W := 0) (Nat.le_of_eq rfl) (by decide) (k' := 1) (n' := 1) rfl rfl (by decide) (by decide) (argsL := [(.ref ad0), (.int (0 : Int32)), (.ref b2), (.int (0 : Int32)), (.int (1 : Int32))]) (rest := []) rfl (fun v10 h9 q11 => ?_)
  obtain ⟨hq7, rfl, K8, A_b2⟩ := q11
  have A_ad0 := A_ad0.keep K8 (ninS ne_ad0_b2 nin0)
  have OL := OL.keep K8 (allS g_b2 all0)
  have KK := KK.trans K8 (allS (P := fun z => z ∈ _ ∨ _ ≤ z) (Or.inr sz_b2) all0)
  refine G.cast (st' := [(.int (1 : Int32))]) ?_ rfl
  refine g_istore cx d4_12 (Ls' := #[.val (.ref ad0), .val (.int (0 : Int32)), .val (.int (1 : Int32)), .val (.ref b2), .val (.int (1 : Int32)), .unset]) rfl ?_
  refine g_iload cx d4_14 rfl ?_
  refine g_iloadN cx d4_16 rfl ?_
  refine g_icmp_eq cx d4_17 (fun hc17 => ?_) (fun q => absurd q (fun q => by revert q; decide))
  refine g_aloadN cx d4_57 rfl rfl ?_
  refine g_retA cx d4_58 (t := (.array .byte)) rfl rfl rfl rfl (by decide) (by decide) ?_
  exact ⟨b2, cA3, hq7, rfl, KK, sz_b2, A_b2⟩
theorem pd_1 : parseMethodDescriptor "([CII)[B" = some ⟨[(.array .char), .int, .int], some (.array .byte)⟩ := by decide +kernel
theorem d2_36 : Dc jdk_42_method_149_code 36 (.invokestatic 177) 3 39 := ⟨by decide +kernel, rfl⟩
theorem d2_39 : Dc jdk_42_method_149_code 39 (.astore 5) 2 41 := ⟨by decide +kernel, rfl⟩
theorem d2_41 : Dc jdk_42_method_149_code 41 (.aload_n 0) 1 42 := ⟨by decide +kernel, rfl⟩
theorem d2_42 : Dc jdk_42_method_149_code 42 (.aload 5) 2 44 := ⟨by decide +kernel, rfl⟩
theorem d2_44 : Dc jdk_42_method_149_code 44 (.iload_n 3) 1 45 := ⟨by decide +kernel, rfl⟩
theorem d6_0 : Dc jdk_52_method_15_code 0 (.iload_n 1) 1 1 := ⟨by decide +kernel, rfl⟩
theorem d6_1 : Dc jdk_52_method_15_code 1 (.aload_n 0) 1 2 := ⟨by decide +kernel, rfl⟩
theorem d6_2 : Dc jdk_52_method_15_code 2 (.arraylength) 1 3 := ⟨by decide +kernel, rfl⟩
theorem d6_3 : Dc jdk_52_method_15_code 3 (.isub) 1 4 := ⟨by decide +kernel, rfl⟩
theorem d6_4 : Dc jdk_52_method_15_code 4 (.bipush 31) 2 6 := ⟨by decide +kernel, rfl⟩
theorem d6_6 : Dc jdk_52_method_15_code 6 (.iushr) 1 7 := ⟨by decide +kernel, rfl⟩
theorem d6_7 : Dc jdk_52_method_15_code 7 (.i2b) 1 8 := ⟨by decide +kernel, rfl⟩
theorem d6_8 : Dc jdk_52_method_15_code 8 (.ireturn) 1 9 := ⟨by decide +kernel, rfl⟩
theorem pn_ra5 : plainName "java/lang/StringUTF16" = true := by first | (simp [plainName, overriddenIn]; done) | decide +kernel
set_option maxRecDepth 65536 in
set_option maxHeartbeats 40000000 in
theorem ra5 (l : Launch) (Z : State) (a0 : Array Value) (hw : ∀ d ∈ tables_1, d.before a0 Z = true) (ad0 : Addr) (x0 : Int32) (cA_ad0 : ClassId) (h0 : Heap) (A_ad0 : Arx Z h0 ad0 cA_ad0 .byte (1 : Int32) [(.int x0)] (.int (0 : Int32)) "[B") (g_ad0 : Z.heap.size ≤ ad0) (OL : Old Z Z.heap.size h0) (cs : Int32) (SCS : Sta Z Z.heap "java/lang/String" "COMPACT_STRINGS" "Z" (.int cs)) (ncs : ¬ cs = 0) :
    Met l Z (⟨"java/lang/StringUTF16", "coderFromArrayLen", "([BI)B"⟩ : MethodName) jdk_52_method_15_code 2 (some .byte) ({ frames := 0, cells := 0, slots := 0, locals := 0 } : Room) #[(.ref ad0), (.int (1 : Int32))] h0 (fun v h' => (v = some (.int (0 : Int32)) ∧ h0 = h')) := by
  refine met_of (Ls := #[.val (.ref ad0), .val (.int (1 : Int32))]) (plainFor_of_name pn_ra5) (fun m => by first | (simp [entryFrame, mkF, argsToLocals, Value.category]; done) | rfl) (fun p e s m below meth c cx => ?_)
  have KK := Keep.refl h0 []
  refine g_iloadN cx d6_0 rfl ?_
  refine g_aloadN cx d6_1 rfl rfl ?_
  refine g_arraylength cx d6_2 A_ad0.1 ?_
  refine g_isub cx d6_3 ?_
  refine G.cast (st' := [(.int (0 : Int32))]) ?_ rfl
  refine g_bipush cx d6_4 (v := (31 : Int32)) rfl ?_
  refine g_iushr cx d6_6 ?_
  refine G.cast (st' := [(.int (0 : Int32))]) ?_ rfl
  refine g_i2b cx d6_7 ?_
  refine G.cast (st' := [(.int (0 : Int32))]) ?_ rfl
  refine g_retN cx d6_8 (t := .byte) rfl (by simp) (by decide) (by decide) ?_
  exact ⟨rfl, rfl⟩
theorem pd_2 : parseMethodDescriptor "([BI)B" = some ⟨[(.array .byte), .int], some .byte⟩ := by decide +kernel
theorem d2_45 : Dc jdk_42_method_149_code 45 (.invokestatic 47) 3 48 := ⟨by decide +kernel, rfl⟩
theorem d2_48 : Dc jdk_42_method_149_code 48 (.putfield 15) 3 51 := ⟨by decide +kernel, rfl⟩
theorem d2_51 : Dc jdk_42_method_149_code 51 (.aload_n 0) 1 52 := ⟨by decide +kernel, rfl⟩
theorem d2_52 : Dc jdk_42_method_149_code 52 (.aload 5) 2 54 := ⟨by decide +kernel, rfl⟩
theorem d2_54 : Dc jdk_42_method_149_code 54 (.putfield 9) 3 57 := ⟨by decide +kernel, rfl⟩
theorem d2_57 : Dc jdk_42_method_149_code 57 (.return_) 1 58 := ⟨by decide +kernel, rfl⟩
theorem pn_ra2 : plainName "java/lang/String" = true := by first | (simp [plainName, overriddenIn]; done) | decide +kernel
set_option maxRecDepth 65536 in
set_option maxHeartbeats 40000000 in
theorem ra2 (l : Launch) (Z : State) (a0 : Array Value) (hw : ∀ d ∈ tables_1, d.before a0 Z = true) (ad0 ad1 : Addr) (x0 : Int32) (cA_ad1 : ClassId) (h0 : Heap) (O_ad0 : ObS Z h0 ad0 (.int (0 : Int32)) .null) (A_ad1 : Arx Z h0 ad1 cA_ad1 .char (1 : Int32) [(.int (nar .char (((x0 &&& (255 : Int32))).toUInt32.toUInt16.toUInt32.toInt32)))] (.int (0 : Int32)) "[C") (ne_ad0_ad1 : ad0 ≠ ad1) (g_ad0 : Z.heap.size ≤ ad0) (g_ad1 : Z.heap.size ≤ ad1) (OL : Old Z Z.heap.size h0) (cs : Int32) (SCS : Sta Z Z.heap "java/lang/String" "COMPACT_STRINGS" "Z" (.int cs)) (ncs : ¬ cs = 0) :
    Met l Z (⟨"java/lang/String", "<init>", "([CIILjava/lang/Void;)V"⟩ : MethodName) jdk_42_method_149_code 6 none ({ frames := 2, cells := 1, slots := 1, locals := 35 } : Room) #[(.ref ad0), (.ref ad1), (.int (0 : Int32)), (.int (1 : Int32)), .null] h0 (fun v h' => (∃ (b1 : Addr) (cA2 : ClassId) , ¬ (cs = (0 : Int32)) ∧ ¬ ((255 : Int32) < (nar .char (((x0 &&& (255 : Int32))).toUInt32.toUInt16.toUInt32.toInt32))) ∧ v = none ∧ Keep h0 h' [ad0] ∧ h0.size ≤ b1 ∧ Arx Z h' b1 cA2 .byte (1 : Int32) [(.int (nar .byte (((nar .char (((x0 &&& (255 : Int32))).toUInt32.toUInt16.toUInt32.toInt32))).toInt8.toInt32)))] (.int (0 : Int32)) "[B" ∧ ObS Z h' ad0 (.int (0 : Int32)) (.ref b1))) := by
  refine met_of (Ls := #[.val (.ref ad0), .val (.ref ad1), .val (.int (0 : Int32)), .val (.int (1 : Int32)), .val .null, .unset]) (plainFor_of_name pn_ra2) (fun m => by first | (simp [entryFrame, mkF, argsToLocals, Value.category]; done) | rfl) (fun p e s m below meth c cx => ?_)
  have KK := Keep.refl h0 [ad0]
  refine g_aloadN cx d2_0 rfl rfl ?_
  refine g_initO cx d2_1 (hw _ (List.mem_of_getElem? (i := 15) rfl)) (hw _ (List.mem_of_getElem? (i := 16) rfl)) (hw _ (List.mem_of_getElem? (i := 17) rfl)) rfl (by decide) (W := 0) (Nat.le_of_eq rfl) (by decide) ?_
  refine g_iloadN cx d2_4 rfl ?_
  refine g_if_ne cx d2_5 (fun hc5 => ?_) (fun q => absurd q (fun q => by revert q; decide))
  refine g_getS cx d2_27 (host := "") (Or.inl (hw _ (List.mem_of_getElem? (i := 18) rfl))) Via.refl (SCS.ext OL.2) ?_
  refine g_if_eq cx d2_30 (fun q => absurd q (fun q => ncs q)) (fun hc30 => ?_)
  refine g_aloadN cx d2_33 rfl rfl ?_
  refine g_iloadN cx d2_34 rfl ?_
  refine g_iloadN cx d2_35 rfl ?_
  refine g_static cx (y := (⟨"java/lang/StringUTF16", "compress", "([CII)[B"⟩ : MethodName)) d2_36 (hw _ (List.mem_of_getElem? (i := 19) rfl)) (hw _ (List.mem_of_getElem? (i := 20) rfl)) (hw _ (List.mem_of_getElem? (i := 21) rfl)) (hw _ (List.mem_of_getElem? (i := 22) rfl)) (by decide) (bytes := jdk_52_method_16_code) (maxL' := 6) (M := (ra3 l Z a0 hw ad1 x0 cA_ad1 _ A_ad1 g_ad1 OL cs SCS ncs)) rfl (lenOf pd_1 rfl) (by decide) (W := 0) (Nat.le_of_eq rfl) (by decide) (k' := 1) (n' := 1) rfl rfl (by decide) (by decide) (argsL := [(.ref ad1), (.int (0 : Int32)), (.int (1 : Int32))]) (rest := []) rfl (fun v6 h5 q7 => ?_)
  obtain ⟨b1, cA2, hq3, rfl, K4, sq_b1, A_b1⟩ := q7
  have ne_ad0_b1 : ad0 ≠ b1 := Nat.ne_of_lt (Nat.lt_of_lt_of_le O_ad0.lt sq_b1)
  have ne_ad1_b1 : ad1 ≠ b1 := Nat.ne_of_lt (Nat.lt_of_lt_of_le A_ad1.lt sq_b1)
  have g_b1 : Z.heap.size ≤ b1 := Nat.le_trans OL.2.1 sq_b1
  have sz_b1 := Nat.le_trans KK.1 sq_b1
  have O_ad0 := O_ad0.keep K4 nin0
  have A_ad1 := A_ad1.keep K4 nin0
  have OL := OL.keep K4 all0
  have KK := KK.trans K4 all0
  refine G.cast (st' := [(.ref b1)]) ?_ rfl
  refine g_astore cx d2_39 rfl (Ls' := #[.val (.ref ad0), .val (.ref ad1), .val (.int (0 : Int32)), .val (.int (1 : Int32)), .val .null, .val (.ref b1)]) rfl ?_
  refine g_aloadN cx d2_41 rfl rfl ?_
  refine g_aload cx d2_42 rfl rfl ?_
  refine g_iloadN cx d2_44 rfl ?_
  refine g_static cx (y := (⟨"java/lang/StringUTF16", "coderFromArrayLen", "([BI)B"⟩ : MethodName)) d2_45 (hw _ (List.mem_of_getElem? (i := 27) rfl)) (hw _ (List.mem_of_getElem? (i := 28) rfl)) (hw _ (List.mem_of_getElem? (i := 21) rfl)) (hw _ (List.mem_of_getElem? (i := 29) rfl)) (by decide) (bytes := jdk_52_method_15_code) (maxL' := 2) (M := (ra5 l Z a0 hw b1 (nar .byte (((nar .char (((x0 &&& (255 : Int32))).toUInt32.toUInt16.toUInt32.toInt32))).toInt8.toInt32)) cA2 _ A_b1 g_b1 OL cs SCS ncs)) rfl (lenOf pd_2 rfl) (by decide) (W := 1) (Nat.le_of_eq rfl) (by decide) (k' := 1) (n' := 1) rfl rfl (by decide) (by decide) (argsL := [(.ref b1), (.int (1 : Int32))]) (rest := [(.ref ad0)]) rfl (fun v10 h9 q11 => ?_)
  obtain ⟨rfl, rfl⟩ := q11
  refine G.cast (st' := [(.int (0 : Int32)), (.ref ad0)]) ?_ rfl
  refine g_putFN cx d2_48 (hw _ (List.mem_of_getElem? (i := 30) rfl)) Via.refl O_ad0.2.1 O_ad0.1 (Or.inr ⟨(hw _ (List.mem_of_getElem? (i := 31) rfl)), rfl, rfl⟩) (hw _ (List.mem_of_getElem? (i := 6) rfl)) (ty := .byte) (v' := (.int (0 : Int32))) (by decide) rfl rfl g_ad0 (fun h12 W13 => ?_)
  have O_ad0 := O_ad0.put1 hw W13
  have A_ad1 := A_ad1.other W13 (Ne.symm ne_ad0_ad1)
  have A_b1 := A_b1.other W13 (Ne.symm ne_ad0_b1)
  have OL := OL.wr W13 g_ad0
  have KK := KK.wr W13 (Or.inl (List.mem_of_getElem? (i := 0) rfl))
  refine g_aloadN cx d2_51 rfl rfl ?_
  refine g_aload cx d2_52 rfl rfl ?_
  refine g_putF cx d2_54 (host := "") (Or.inl (hw _ (List.mem_of_getElem? (i := 32) rfl))) Via.refl O_ad0.2.2 O_ad0.1 (Or.inr ⟨(hw _ (List.mem_of_getElem? (i := 33) rfl)), rfl, rfl⟩) (hw _ (List.mem_of_getElem? (i := 6) rfl)) (ty := (.array .byte)) (by decide) rfl rfl g_ad0 (fun h14 W15 => ?_)
  have O_ad0 := O_ad0.put2 hw W15
  have A_ad1 := A_ad1.other W15 (Ne.symm ne_ad0_ad1)
  have A_b1 := A_b1.other W15 (Ne.symm ne_ad0_b1)
  have OL := OL.wr W15 g_ad0
  have KK := KK.wr W15 (Or.inl (List.mem_of_getElem? (i := 0) rfl))
  refine g_retV cx d2_57 rfl (by decide) (by decide) ?_
  exact ⟨b1, cA2, hc30, hq3, rfl, KK, sz_b1, A_b1, O_ad0⟩
theorem pd_3 : parseMethodDescriptor "([CIILjava/lang/Void;)V" = some ⟨[(.array .char), .int, .int, (.object "java/lang/Void")], none⟩ := by decide +kernel
theorem d1_6 : Dc jdk_42_method_3_code 6 (.invokespecial 27) 3 9 := ⟨by decide +kernel, rfl⟩
theorem d1_9 : Dc jdk_42_method_3_code 9 (.return_) 1 10 := ⟨by decide +kernel, rfl⟩
theorem pn_ra1 : plainName "java/lang/String" = true := by first | (simp [plainName, overriddenIn]; done) | decide +kernel
set_option maxRecDepth 65536 in
set_option maxHeartbeats 40000000 in
theorem ra1 (l : Launch) (Z : State) (a0 : Array Value) (hw : ∀ d ∈ tables_1, d.before a0 Z = true) (ad0 ad1 : Addr) (x0 : Int32) (cA_ad1 : ClassId) (h0 : Heap) (O_ad0 : ObS Z h0 ad0 (.int (0 : Int32)) .null) (A_ad1 : Arx Z h0 ad1 cA_ad1 .char (1 : Int32) [(.int (nar .char (((x0 &&& (255 : Int32))).toUInt32.toUInt16.toUInt32.toInt32)))] (.int (0 : Int32)) "[C") (ne_ad0_ad1 : ad0 ≠ ad1) (g_ad0 : Z.heap.size ≤ ad0) (g_ad1 : Z.heap.size ≤ ad1) (OL : Old Z Z.heap.size h0) (cs : Int32) (SCS : Sta Z Z.heap "java/lang/String" "COMPACT_STRINGS" "Z" (.int cs)) (ncs : ¬ cs = 0) :
    Met l Z (⟨"java/lang/String", "<init>", "([C)V"⟩ : MethodName) jdk_42_method_3_code 2 none ({ frames := 3, cells := 1, slots := 1, locals := 52 } : Room) #[(.ref ad0), (.ref ad1)] h0 (fun v h' => (∃ (b1 : Addr) (cA2 : ClassId) , ¬ (cs = (0 : Int32)) ∧ ¬ ((255 : Int32) < (nar .char (((x0 &&& (255 : Int32))).toUInt32.toUInt16.toUInt32.toInt32))) ∧ v = none ∧ Keep h0 h' [ad0] ∧ h0.size ≤ b1 ∧ Arx Z h' b1 cA2 .byte (1 : Int32) [(.int (nar .byte (((nar .char (((x0 &&& (255 : Int32))).toUInt32.toUInt16.toUInt32.toInt32))).toInt8.toInt32)))] (.int (0 : Int32)) "[B" ∧ ObS Z h' ad0 (.int (0 : Int32)) (.ref b1))) := by
  refine met_of (Ls := #[.val (.ref ad0), .val (.ref ad1)]) (plainFor_of_name pn_ra1) (fun m => by first | (simp [entryFrame, mkF, argsToLocals, Value.category]; done) | rfl) (fun p e s m below meth c cx => ?_)
  have KK := Keep.refl h0 [ad0]
  refine g_aloadN cx d1_0 rfl rfl ?_
  refine g_aloadN cx d1_1 rfl rfl ?_
  refine g_iconst cx d1_2 (v := (0 : Int32)) rfl ?_
  refine g_aloadN cx d1_3 rfl rfl ?_
  refine g_arraylength cx d1_4 A_ad1.1 ?_
  refine g_aconst_null cx d1_5 ?_
  have lt_ad0 := O_ad0.lt
  refine g_special cx (y := (⟨"java/lang/String", "<init>", "([CIILjava/lang/Void;)V"⟩ : MethodName)) (a := ad0) d1_6 rfl rfl (hw _ (List.mem_of_getElem? (i := 11) rfl)) (hw _ (List.mem_of_getElem? (i := 12) rfl)) (hw _ (List.mem_of_getElem? (i := 7) rfl)) (hw _ (List.mem_of_getElem? (i := 14) rfl)) (by decide) (bytes := jdk_42_method_149_code) (maxL' := 6) (M := (ra2 l Z a0 hw ad0 ad1 x0 cA_ad1 _ O_ad0 A_ad1 ne_ad0_ad1 g_ad0 g_ad1 OL cs SCS ncs)) rfl (lenOf pd_3 rfl) (by decide) (W := 0) (Nat.le_of_eq rfl) (by decide) (k' := 1) (n' := 1) rfl rfl (by decide) (by decide) (argsL := [(.ref ad1), (.int (0 : Int32)), (.int (1 : Int32)), .null]) (rest := []) rfl (fun v7 h6 q8 => ?_)
  obtain ⟨b1, cA2, hq3, hq4, rfl, K5, sq_b1, A_b1, O_ad0⟩ := q8
  have ne_ad0_b1 : ad0 ≠ b1 := Nat.ne_of_lt (Nat.lt_of_lt_of_le lt_ad0 sq_b1)
  have ne_ad1_b1 : ad1 ≠ b1 := Nat.ne_of_lt (Nat.lt_of_lt_of_le A_ad1.lt sq_b1)
  have g_b1 : Z.heap.size ≤ b1 := Nat.le_trans OL.2.1 sq_b1
  have sz_b1 := Nat.le_trans KK.1 sq_b1
  have A_ad1 := A_ad1.keep K5 (ninS (Ne.symm ne_ad0_ad1) nin0)
  have OL := OL.keep K5 (allS g_ad0 all0)
  have KK := KK.trans K5 (allS (P := fun z => z ∈ _ ∨ _ ≤ z) (Or.inl (List.mem_of_getElem? (i := 0) rfl)) all0)
  refine G.cast (st' := []) ?_ rfl
  refine g_retV cx d1_9 rfl (by decide) (by decide) ?_
  exact ⟨b1, cA2, hq3, hq4, rfl, KK, sz_b1, A_b1, O_ad0⟩
theorem pd_4 : parseMethodDescriptor "([C)V" = some ⟨[(.array .char)], none⟩ := by decide +kernel
theorem d0_67 : Dc code 67 (.invokespecial 12) 3 70 := ⟨by decide +kernel, rfl⟩
theorem d0_70 : Dc code 70 (.new 10) 3 73 := ⟨by decide +kernel, rfl⟩
theorem d0_73 : Dc code 73 (.dup) 1 74 := ⟨by decide +kernel, rfl⟩
theorem d0_74 : Dc code 74 (.aload 6) 2 76 := ⟨by decide +kernel, rfl⟩
theorem d0_76 : Dc code 76 (.invokespecial 12) 3 79 := ⟨by decide +kernel, rfl⟩
theorem d7_0 : Dc prog_13_method_1_code 0 (.aload_n 0) 1 1 := ⟨by decide +kernel, rfl⟩
theorem pd_5 : parseMethodDescriptor "()V" = some ⟨[], none⟩ := by decide +kernel
theorem d7_1 : Dc prog_13_method_1_code 1 (.invokespecial 1) 3 4 := ⟨by decide +kernel, rfl⟩
theorem d7_4 : Dc prog_13_method_1_code 4 (.aload_n 0) 1 5 := ⟨by decide +kernel, rfl⟩
theorem d7_5 : Dc prog_13_method_1_code 5 (.iload_n 1) 1 6 := ⟨by decide +kernel, rfl⟩
theorem d7_6 : Dc prog_13_method_1_code 6 (.putfield 7) 3 9 := ⟨by decide +kernel, rfl⟩
theorem d7_9 : Dc prog_13_method_1_code 9 (.aload_n 0) 1 10 := ⟨by decide +kernel, rfl⟩
theorem d7_10 : Dc prog_13_method_1_code 10 (.aload_n 2) 1 11 := ⟨by decide +kernel, rfl⟩
theorem d7_11 : Dc prog_13_method_1_code 11 (.putfield 13) 3 14 := ⟨by decide +kernel, rfl⟩
theorem d7_14 : Dc prog_13_method_1_code 14 (.aload_n 0) 1 15 := ⟨by decide +kernel, rfl⟩
theorem d7_15 : Dc prog_13_method_1_code 15 (.aload_n 3) 1 16 := ⟨by decide +kernel, rfl⟩
theorem d7_16 : Dc prog_13_method_1_code 16 (.putfield 17) 3 19 := ⟨by decide +kernel, rfl⟩
theorem d7_19 : Dc prog_13_method_1_code 19 (.return_) 1 20 := ⟨by decide +kernel, rfl⟩
theorem pn_ra6 : plainName "com/example/egret/egret/service/Outcome" = true := by first | (simp [plainName, overriddenIn]; done) | decide +kernel
set_option maxRecDepth 65536 in
set_option maxHeartbeats 40000000 in
theorem ra6 (l : Launch) (Z : State) (a0 : Array Value) (hw : ∀ d ∈ tables_1, d.before a0 Z = true) (ad0 ad1 ad2 ad3 ad4 : Addr) (x0 : Int32) (x1 : Int32) (x2 : Int32) (cA_ad2 : ClassId) (cA_ad4 : ClassId) (h0 : Heap) (O_ad0 : ObO Z h0 ad0 (.int (0 : Int32)) .null .null) (O_ad1 : ObS Z h0 ad1 (.int (0 : Int32)) (.ref ad2)) (O_ad3 : ObS Z h0 ad3 (.int (0 : Int32)) (.ref ad4)) (A_ad2 : Arx Z h0 ad2 cA_ad2 .byte (1 : Int32) [(.int x1)] (.int (0 : Int32)) "[B") (A_ad4 : Arx Z h0 ad4 cA_ad4 .byte (1 : Int32) [(.int x2)] (.int (0 : Int32)) "[B") (ne_ad0_ad1 : ad0 ≠ ad1) (ne_ad0_ad2 : ad0 ≠ ad2) (ne_ad1_ad2 : ad1 ≠ ad2) (ne_ad0_ad3 : ad0 ≠ ad3) (ne_ad1_ad3 : ad1 ≠ ad3) (ne_ad2_ad3 : ad2 ≠ ad3) (ne_ad0_ad4 : ad0 ≠ ad4) (ne_ad1_ad4 : ad1 ≠ ad4) (ne_ad2_ad4 : ad2 ≠ ad4) (ne_ad3_ad4 : ad3 ≠ ad4) (g_ad0 : Z.heap.size ≤ ad0) (g_ad1 : Z.heap.size ≤ ad1) (g_ad2 : Z.heap.size ≤ ad2) (g_ad3 : Z.heap.size ≤ ad3) (g_ad4 : Z.heap.size ≤ ad4) (OL : Old Z Z.heap.size h0) (cs : Int32) (SCS : Sta Z Z.heap "java/lang/String" "COMPACT_STRINGS" "Z" (.int cs)) (ncs : ¬ cs = 0) :
    Met l Z (⟨"com/example/egret/egret/service/Outcome", "<init>", "(ILjava/lang/String;Ljava/lang/String;)V"⟩ : MethodName) prog_13_method_1_code 4 none ({ frames := 2, cells := 0, slots := 0, locals := 24 } : Room) #[(.ref ad0), (.int x0), (.ref ad1), (.ref ad3)] h0 (fun v h' => (v = none ∧ Keep h0 h' [ad0] ∧ ObO Z h' ad0 (.int x0) (.ref ad1) (.ref ad3))) := by
  refine met_of (Ls := #[.val (.ref ad0), .val (.int x0), .val (.ref ad1), .val (.ref ad3)]) (plainFor_of_name pn_ra6) (fun m => by first | (simp [entryFrame, mkF, argsToLocals, Value.category]; done) | rfl) (fun p e s m below meth c cx => ?_)
  have KK := Keep.refl h0 [ad0]
  refine g_aloadN cx d7_0 rfl rfl ?_
  refine g_special cx (y := (⟨"java/lang/Record", "<init>", "()V"⟩ : MethodName)) (a := ad0) d7_1 rfl rfl (hw _ (List.mem_of_getElem? (i := 37) rfl)) (hw _ (List.mem_of_getElem? (i := 38) rfl)) (hw _ (List.mem_of_getElem? (i := 40) rfl)) (hw _ (List.mem_of_getElem? (i := 41) rfl)) (by decide) (bytes := jdk_30_method_1_code) (maxL' := 1) (M := (rm1 l Z a0 hw ad0 _)) rfl (lenOf pd_5 rfl) (by decide) (W := 0) (Nat.le_of_eq rfl) (by decide) (k' := 0) (n' := 0) rfl rfl (by decide) (by decide) (argsL := []) (rest := []) rfl (fun v2 h1 q3 => ?_)
  obtain ⟨rfl, rfl⟩ := q3
  refine G.cast (st' := []) ?_ rfl
  refine g_aloadN cx d7_4 rfl rfl ?_
  refine g_iloadN cx d7_5 rfl ?_
  refine g_putF cx d7_6 (host := "") (Or.inl (hw _ (List.mem_of_getElem? (i := 43) rfl))) Via.refl O_ad0.2.1 O_ad0.1 (Or.inr ⟨(hw _ (List.mem_of_getElem? (i := 44) rfl)), rfl, rfl⟩) (hw _ (List.mem_of_getElem? (i := 3) rfl)) (ty := .int) (by decide) rfl rfl g_ad0 (fun h4 W5 => ?_)
  have O_ad0 := O_ad0.put1 hw W5
  have O_ad1 := O_ad1.oth W5 (Ne.symm ne_ad0_ad1)
  have O_ad3 := O_ad3.oth W5 (Ne.symm ne_ad0_ad3)
  have A_ad2 := A_ad2.other W5 (Ne.symm ne_ad0_ad2)
  have A_ad4 := A_ad4.other W5 (Ne.symm ne_ad0_ad4)
  have OL := OL.wr W5 g_ad0
  have KK := KK.wr W5 (Or.inl (List.mem_of_getElem? (i := 0) rfl))
  refine g_aloadN cx d7_9 rfl rfl ?_
  refine g_aloadN cx d7_10 rfl rfl ?_
  refine g_putF cx d7_11 (host := "") (Or.inl (hw _ (List.mem_of_getElem? (i := 45) rfl))) Via.refl O_ad0.2.2.1 O_ad0.1 (Or.inr ⟨(hw _ (List.mem_of_getElem? (i := 46) rfl)), rfl, rfl⟩) (hw _ (List.mem_of_getElem? (i := 3) rfl)) (ty := (.object "java/lang/String")) (by decide) rfl rfl g_ad0 (fun h6 W7 => ?_)
  have O_ad0 := O_ad0.put2 hw W7
  have O_ad1 := O_ad1.oth W7 (Ne.symm ne_ad0_ad1)
  have O_ad3 := O_ad3.oth W7 (Ne.symm ne_ad0_ad3)
  have A_ad2 := A_ad2.other W7 (Ne.symm ne_ad0_ad2)
  have A_ad4 := A_ad4.other W7 (Ne.symm ne_ad0_ad4)
  have OL := OL.wr W7 g_ad0
  have KK := KK.wr W7 (Or.inl (List.mem_of_getElem? (i := 0) rfl))
  refine g_aloadN cx d7_14 rfl rfl ?_
  refine g_aloadN cx d7_15 rfl rfl ?_
  refine g_putF cx d7_16 (host := "") (Or.inl (hw _ (List.mem_of_getElem? (i := 47) rfl))) Via.refl O_ad0.2.2.2 O_ad0.1 (Or.inr ⟨(hw _ (List.mem_of_getElem? (i := 48) rfl)), rfl, rfl⟩) (hw _ (List.mem_of_getElem? (i := 3) rfl)) (ty := (.object "java/lang/String")) (by decide) rfl rfl g_ad0 (fun h8 W9 => ?_)
  have O_ad0 := O_ad0.put3 hw W9
  have O_ad1 := O_ad1.oth W9 (Ne.symm ne_ad0_ad1)
  have O_ad3 := O_ad3.oth W9 (Ne.symm ne_ad0_ad3)
  have A_ad2 := A_ad2.other W9 (Ne.symm ne_ad0_ad2)
  have A_ad4 := A_ad4.other W9 (Ne.symm ne_ad0_ad4)
  have OL := OL.wr W9 g_ad0
  have KK := KK.wr W9 (Or.inl (List.mem_of_getElem? (i := 0) rfl))
  refine g_retV cx d7_19 rfl (by decide) (by decide) ?_
  exact ⟨rfl, KK, O_ad0⟩
theorem pd_6 : parseMethodDescriptor "(ILjava/lang/String;Ljava/lang/String;)V" = some ⟨[.int, (.object "java/lang/String"), (.object "java/lang/String")], none⟩ := by decide +kernel
theorem d0_79 : Dc code 79 (.invokespecial 15) 3 82 := ⟨by decide +kernel, rfl⟩
theorem d0_82 : Dc code 82 (.astore 7) 2 84 := ⟨by decide +kernel, rfl⟩
theorem d0_84 : Dc code 84 (.aload 7) 2 86 := ⟨by decide +kernel, rfl⟩
theorem d9_0 : Dc prog_13_method_7_code 0 (.aload_n 0) 1 1 := ⟨by decide +kernel, rfl⟩
theorem d9_1 : Dc prog_13_method_7_code 1 (.getfield 7) 3 4 := ⟨by decide +kernel, rfl⟩
theorem d9_4 : Dc prog_13_method_7_code 4 (.sipush 200) 3 7 := ⟨by decide +kernel, rfl⟩
theorem d9_7 : Bi prog_13_method_7_code 7 (Instr.if_icmp .lt) 24 10 := ⟨17, by decide +kernel, by decide, by decide, rfl⟩
theorem d9_24 : Dc prog_13_method_7_code 24 (.iconst 0) 1 25 := ⟨by decide +kernel, rfl⟩
theorem d9_25 : Dc prog_13_method_7_code 25 (.ireturn) 1 26 := ⟨by decide +kernel, rfl⟩
theorem d9_10 : Dc prog_13_method_7_code 10 (.aload_n 0) 1 11 := ⟨by decide +kernel, rfl⟩
theorem d9_11 : Dc prog_13_method_7_code 11 (.getfield 7) 3 14 := ⟨by decide +kernel, rfl⟩
theorem d9_14 : Dc prog_13_method_7_code 14 (.sipush 204) 3 17 := ⟨by decide +kernel, rfl⟩
theorem d9_17 : Bi prog_13_method_7_code 17 (Instr.if_icmp .gt) 24 20 := ⟨7, by decide +kernel, by decide, by decide, rfl⟩
theorem d9_20 : Dc prog_13_method_7_code 20 (.iconst 1) 1 21 := ⟨by decide +kernel, rfl⟩
theorem d9_21 : Bi prog_13_method_7_code 21 (Instr.goto) 25 24 := ⟨4, by decide +kernel, by decide, by decide, rfl⟩
theorem pn_ra7 : plainName "com/example/egret/egret/service/Outcome" = true := by first | (simp [plainName, overriddenIn]; done) | decide +kernel
set_option maxRecDepth 65536 in
set_option maxHeartbeats 40000000 in
theorem ra7 (l : Launch) (Z : State) (a0 : Array Value) (hw : ∀ d ∈ tables_1, d.before a0 Z = true) (ad0 ad1 ad2 ad3 ad4 : Addr) (x0 : Int32) (x1 : Int32) (x2 : Int32) (cA_ad2 : ClassId) (cA_ad4 : ClassId) (h0 : Heap) (O_ad0 : ObO Z h0 ad0 (.int x0) (.ref ad1) (.ref ad3)) (O_ad1 : ObS Z h0 ad1 (.int (0 : Int32)) (.ref ad2)) (O_ad3 : ObS Z h0 ad3 (.int (0 : Int32)) (.ref ad4)) (A_ad2 : Arx Z h0 ad2 cA_ad2 .byte (1 : Int32) [(.int x1)] (.int (0 : Int32)) "[B") (A_ad4 : Arx Z h0 ad4 cA_ad4 .byte (1 : Int32) [(.int x2)] (.int (0 : Int32)) "[B") (ne_ad0_ad1 : ad0 ≠ ad1) (ne_ad0_ad2 : ad0 ≠ ad2) (ne_ad1_ad2 : ad1 ≠ ad2) (ne_ad0_ad3 : ad0 ≠ ad3) (ne_ad1_ad3 : ad1 ≠ ad3) (ne_ad2_ad3 : ad2 ≠ ad3) (ne_ad0_ad4 : ad0 ≠ ad4) (ne_ad1_ad4 : ad1 ≠ ad4) (ne_ad2_ad4 : ad2 ≠ ad4) (ne_ad3_ad4 : ad3 ≠ ad4) (g_ad0 : Z.heap.size ≤ ad0) (g_ad1 : Z.heap.size ≤ ad1) (g_ad2 : Z.heap.size ≤ ad2) (g_ad3 : Z.heap.size ≤ ad3) (g_ad4 : Z.heap.size ≤ ad4) (OL : Old Z Z.heap.size h0) (cs : Int32) (SCS : Sta Z Z.heap "java/lang/String" "COMPACT_STRINGS" "Z" (.int cs)) (ncs : ¬ cs = 0) :
    Met l Z (⟨"com/example/egret/egret/service/Outcome", "delivered", "()Z"⟩ : MethodName) prog_13_method_7_code 1 (some .boolean) ({ frames := 0, cells := 0, slots := 0, locals := 0 } : Room) #[(.ref ad0)] h0 (fun v h' => (x0 < (200 : Int32) ∧ v = some (.int (0 : Int32)) ∧ h0 = h') ∨ (¬ (x0 < (200 : Int32)) ∧ (204 : Int32) < x0 ∧ v = some (.int (0 : Int32)) ∧ h0 = h') ∨ (¬ (x0 < (200 : Int32)) ∧ ¬ ((204 : Int32) < x0) ∧ v = some (.int (1 : Int32)) ∧ h0 = h')) := by
  refine met_of (Ls := #[.val (.ref ad0)]) (plainFor_of_name pn_ra7) (fun m => by first | (simp [entryFrame, mkF, argsToLocals, Value.category]; done) | rfl) (fun p e s m below meth c cx => ?_)
  have KK := Keep.refl h0 []
  refine g_aloadN cx d9_0 rfl rfl ?_
  refine g_getF cx d9_1 (host := "") (Or.inl (hw _ (List.mem_of_getElem? (i := 43) rfl))) Via.refl O_ad0.2.1 ?_
  refine g_sipush cx d9_4 (v := (200 : Int32)) rfl ?_
  refine g_icmp_lt cx d9_7 (fun hc7 => ?_) (fun hc7 => ?_)
  · refine g_iconst cx d9_24 (v := (0 : Int32)) rfl ?_
    refine g_retZ cx d9_25 rfl rfl (by decide) (by decide) ?_
    exact Or.inl ⟨hc7, rfl, rfl⟩
  · refine g_aloadN cx d9_10 rfl rfl ?_
    refine g_getF cx d9_11 (host := "") (Or.inl (hw _ (List.mem_of_getElem? (i := 43) rfl))) Via.refl O_ad0.2.1 ?_
    refine g_sipush cx d9_14 (v := (204 : Int32)) rfl ?_
    refine g_icmp_gt cx d9_17 (fun hc17 => ?_) (fun hc17 => ?_)
    · refine g_iconst cx d9_24 (v := (0 : Int32)) rfl ?_
      refine g_retZ cx d9_25 rfl rfl (by decide) (by decide) ?_
      exact Or.inr (Or.inl ⟨hc7, hc17, rfl, rfl⟩)
    · refine g_iconst cx d9_20 (v := (1 : Int32)) rfl ?_
      refine g_goto cx d9_21 ?_
      refine g_retZ cx d9_25 rfl rfl (by decide) (by decide) ?_
      exact Or.inr (Or.inr (⟨hc7, hc17, rfl, rfl⟩))
theorem pd_7 : parseMethodDescriptor "()Z" = some ⟨[], some .boolean⟩ := by decide +kernel
theorem d0_86 : Dc code 86 (.invokevirtual 18) 3 89 := ⟨by decide +kernel, rfl⟩
theorem d0_89 : Dc code 89 (.istore 8) 2 91 := ⟨by decide +kernel, rfl⟩
theorem d0_91 : Dc code 91 (.iload 4) 2 93 := ⟨by decide +kernel, rfl⟩
theorem d0_93 : Dc code 93 (.i2l) 1 94 := ⟨by decide +kernel, rfl⟩
theorem d0_94 : Dc code 94 (.ldc2_w 22) 3 97 := ⟨by decide +kernel, rfl⟩
theorem d0_97 : Dc code 97 (.lsub) 1 98 := ⟨by decide +kernel, rfl⟩
theorem d0_98 : Dc code 98 (.lstore 9) 2 100 := ⟨by decide +kernel, rfl⟩
theorem d0_100 : Dc code 100 (.lload 9) 2 102 := ⟨by decide +kernel, rfl⟩
theorem d0_102 : Dc code 102 (.lconst 0) 1 103 := ⟨by decide +kernel, rfl⟩
theorem d0_103 : Dc code 103 (.lcmp) 1 104 := ⟨by decide +kernel, rfl⟩
theorem d0_104 : Bi code 104 (Instr.ifCond .lt) 120 107 := ⟨16, by decide +kernel, by decide, by decide, rfl⟩
theorem d0_120 : Dc code 120 (.iconst 0) 1 121 := ⟨by decide +kernel, rfl⟩
theorem d0_121 : Dc code 121 (.istore 11) 2 123 := ⟨by decide +kernel, rfl⟩
theorem d0_123 : Dc code 123 (.iload 8) 2 125 := ⟨by decide +kernel, rfl⟩
theorem d0_125 : Dc code 125 (.iload 4) 2 127 := ⟨by decide +kernel, rfl⟩
theorem d10_0 : Dc method_2_code 0 (.iload_n 0) 1 1 := ⟨by decide +kernel, rfl⟩
theorem d10_1 : Dc method_2_code 1 (.sipush 200) 3 4 := ⟨by decide +kernel, rfl⟩
theorem d10_4 : Bi method_2_code 4 (Instr.if_icmp .eq) 35 7 := ⟨31, by decide +kernel, by decide, by decide, rfl⟩
theorem d10_35 : Dc method_2_code 35 (.iconst 1) 1 36 := ⟨by decide +kernel, rfl⟩
theorem d10_36 : Bi method_2_code 36 (Instr.goto) 40 39 := ⟨4, by decide +kernel, by decide, by decide, rfl⟩
theorem d10_40 : Dc method_2_code 40 (.ireturn) 1 41 := ⟨by decide +kernel, rfl⟩
theorem d10_7 : Dc method_2_code 7 (.iload_n 0) 1 8 := ⟨by decide +kernel, rfl⟩
theorem d10_8 : Dc method_2_code 8 (.sipush 201) 3 11 := ⟨by decide +kernel, rfl⟩
theorem d10_11 : Bi method_2_code 11 (Instr.if_icmp .eq) 35 14 := ⟨24, by decide +kernel, by decide, by decide, rfl⟩
theorem d10_14 : Dc method_2_code 14 (.iload_n 0) 1 15 := ⟨by decide +kernel, rfl⟩
theorem d10_15 : Dc method_2_code 15 (.sipush 202) 3 18 := ⟨by decide +kernel, rfl⟩
theorem d10_18 : Bi method_2_code 18 (Instr.if_icmp .eq) 35 21 := ⟨17, by decide +kernel, by decide, by decide, rfl⟩
theorem d10_21 : Dc method_2_code 21 (.iload_n 0) 1 22 := ⟨by decide +kernel, rfl⟩
theorem d10_22 : Dc method_2_code 22 (.sipush 203) 3 25 := ⟨by decide +kernel, rfl⟩
theorem d10_25 : Bi method_2_code 25 (Instr.if_icmp .eq) 35 28 := ⟨10, by decide +kernel, by decide, by decide, rfl⟩
theorem d10_28 : Dc method_2_code 28 (.iload_n 0) 1 29 := ⟨by decide +kernel, rfl⟩
theorem d10_29 : Dc method_2_code 29 (.sipush 204) 3 32 := ⟨by decide +kernel, rfl⟩
theorem d10_32 : Bi method_2_code 32 (Instr.if_icmp .ne) 39 35 := ⟨7, by decide +kernel, by decide, by decide, rfl⟩
theorem d10_39 : Dc method_2_code 39 (.iconst 0) 1 40 := ⟨by decide +kernel, rfl⟩
theorem pn_ra8 : plainName "com/example/egret/egret/service/OutcomeDeliveredPinLaw" = true := by first | (simp [plainName, overriddenIn]; done) | decide +kernel
set_option maxRecDepth 65536 in
set_option maxHeartbeats 40000000 in
theorem ra8 (l : Launch) (Z : State) (a0 : Array Value) (hw : ∀ d ∈ tables_1, d.before a0 Z = true) (x0 : Int32) (h0 : Heap) (OL : Old Z Z.heap.size h0) (cs : Int32) (SCS : Sta Z Z.heap "java/lang/String" "COMPACT_STRINGS" "Z" (.int cs)) (ncs : ¬ cs = 0) :
    Met l Z (⟨"com/example/egret/egret/service/OutcomeDeliveredPinLaw", "isSuccessStatus", "(I)Z"⟩ : MethodName) method_2_code 1 (some .boolean) ({ frames := 0, cells := 0, slots := 0, locals := 0 } : Room) #[(.int x0)] h0 (fun v h' => (x0 = (200 : Int32) ∧ v = some (.int (1 : Int32)) ∧ h0 = h') ∨ (¬ (x0 = (200 : Int32)) ∧ x0 = (201 : Int32) ∧ v = some (.int (1 : Int32)) ∧ h0 = h') ∨ (¬ (x0 = (200 : Int32)) ∧ ¬ (x0 = (201 : Int32)) ∧ x0 = (202 : Int32) ∧ v = some (.int (1 : Int32)) ∧ h0 = h') ∨ (¬ (x0 = (200 : Int32)) ∧ ¬ (x0 = (201 : Int32)) ∧ ¬ (x0 = (202 : Int32)) ∧ x0 = (203 : Int32) ∧ v = some (.int (1 : Int32)) ∧ h0 = h') ∨ (¬ (x0 = (200 : Int32)) ∧ ¬ (x0 = (201 : Int32)) ∧ ¬ (x0 = (202 : Int32)) ∧ ¬ (x0 = (203 : Int32)) ∧ ¬ (x0 = (204 : Int32)) ∧ v = some (.int (0 : Int32)) ∧ h0 = h') ∨ (¬ (x0 = (200 : Int32)) ∧ ¬ (x0 = (201 : Int32)) ∧ ¬ (x0 = (202 : Int32)) ∧ ¬ (x0 = (203 : Int32)) ∧ x0 = (204 : Int32) ∧ v = some (.int (1 : Int32)) ∧ h0 = h')) := by
  refine met_of (Ls := #[.val (.int x0)]) (plainFor_of_name pn_ra8) (fun m => by first | (simp [entryFrame, mkF, argsToLocals, Value.category]; done) | rfl) (fun p e s m below meth c cx => ?_)
  have KK := Keep.refl h0 []
  refine g_iloadN cx d10_0 rfl ?_
  refine g_sipush cx d10_1 (v := (200 : Int32)) rfl ?_
  refine g_icmp_eq cx d10_4 (fun hc4 => ?_) (fun hc4 => ?_)
  · refine g_iconst cx d10_35 (v := (1 : Int32)) rfl ?_
    refine g_goto cx d10_36 ?_
    refine g_retZ cx d10_40 rfl rfl (by decide) (by decide) ?_
    exact Or.inl ⟨hc4, rfl, rfl⟩
  · refine g_iloadN cx d10_7 rfl ?_
    refine g_sipush cx d10_8 (v := (201 : Int32)) rfl ?_
    refine g_icmp_eq cx d10_11 (fun hc11 => ?_) (fun hc11 => ?_)
    · refine g_iconst cx d10_35 (v := (1 : Int32)) rfl ?_
      refine g_goto cx d10_36 ?_
      refine g_retZ cx d10_40 rfl rfl (by decide) (by decide) ?_
      exact Or.inr (Or.inl ⟨hc4, hc11, rfl, rfl⟩)
    · refine g_iloadN cx d10_14 rfl ?_
      refine g_sipush cx d10_15 (v := (202 : Int32)) rfl ?_
      refine g_icmp_eq cx d10_18 (fun hc18 => ?_) (fun hc18 => ?_)
      · refine g_iconst cx d10_35 (v := (1 : Int32)) rfl ?_
        refine g_goto cx d10_36 ?_
        refine g_retZ cx d10_40 rfl rfl (by decide) (by decide) ?_
        exact Or.inr (Or.inr (Or.inl ⟨hc4, hc11, hc18, rfl, rfl⟩))
      · refine g_iloadN cx d10_21 rfl ?_
        refine g_sipush cx d10_22 (v := (203 : Int32)) rfl ?_
        refine g_icmp_eq cx d10_25 (fun hc25 => ?_) (fun hc25 => ?_)
        · refine g_iconst cx d10_35 (v := (1 : Int32)) rfl ?_
          refine g_goto cx d10_36 ?_
          refine g_retZ cx d10_40 rfl rfl (by decide) (by decide) ?_
          exact Or.inr (Or.inr (Or.inr (Or.inl ⟨hc4, hc11, hc18, hc25, rfl, rfl⟩)))
        · refine g_iloadN cx d10_28 rfl ?_
          refine g_sipush cx d10_29 (v := (204 : Int32)) rfl ?_
          refine g_icmp_ne cx d10_32 (fun hc32 => ?_) (fun hc32 => ?_)
          · refine g_iconst cx d10_39 (v := (0 : Int32)) rfl ?_
            refine g_retZ cx d10_40 rfl rfl (by decide) (by decide) ?_
            exact Or.inr (Or.inr (Or.inr (Or.inr (Or.inl ⟨hc4, hc11, hc18, hc25, hc32, rfl, rfl⟩))))
          · refine g_iconst cx d10_35 (v := (1 : Int32)) rfl ?_
            refine g_goto cx d10_36 ?_
            refine g_retZ cx d10_40 rfl rfl (by decide) (by decide) ?_
            exact Or.inr (Or.inr (Or.inr (Or.inr (Or.inr (⟨hc4, hc11, hc18, hc25, hc32, rfl, rfl⟩)))))
theorem pd_8 : parseMethodDescriptor "(I)Z" = some ⟨[.int], some .boolean⟩ := by decide +kernel
theorem d0_127 : Dc code 127 (.invokestatic 26) 3 130 := ⟨by decide +kernel, rfl⟩
theorem d0_130 : Bi code 130 (Instr.if_icmp .ne) 144 133 := ⟨14, by decide +kernel, by decide, by decide, rfl⟩
theorem d0_144 : Dc code 144 (.iconst 0) 1 145 := ⟨by decide +kernel, rfl⟩
theorem d0_145 : Dc code 145 (.ireturn) 1 146 := ⟨by decide +kernel, rfl⟩
theorem d0_133 : Dc code 133 (.iload 8) 2 135 := ⟨by decide +kernel, rfl⟩
theorem d0_135 : Dc code 135 (.iload 11) 2 137 := ⟨by decide +kernel, rfl⟩
theorem d0_137 : Bi code 137 (Instr.if_icmp .ne) 144 140 := ⟨7, by decide +kernel, by decide, by decide, rfl⟩
theorem d0_140 : Dc code 140 (.iconst 1) 1 141 := ⟨by decide +kernel, rfl⟩
theorem d0_141 : Bi code 141 (Instr.goto) 145 144 := ⟨4, by decide +kernel, by decide, by decide, rfl⟩
theorem d0_107 : Dc code 107 (.lload 9) 2 109 := ⟨by decide +kernel, rfl⟩
theorem d0_109 : Dc code 109 (.ldc2_w 24) 3 112 := ⟨by decide +kernel, rfl⟩
theorem d0_112 : Dc code 112 (.lcmp) 1 113 := ⟨by decide +kernel, rfl⟩
theorem d0_113 : Bi code 113 (Instr.ifCond .gt) 120 116 := ⟨7, by decide +kernel, by decide, by decide, rfl⟩
theorem d0_116 : Dc code 116 (.iconst 1) 1 117 := ⟨by decide +kernel, rfl⟩
theorem d0_117 : Bi code 117 (Instr.goto) 121 120 := ⟨4, by decide +kernel, by decide, by decide, rfl⟩
theorem d0_6 : Dc code 6 (.sipush 196) 3 9 := ⟨by decide +kernel, rfl⟩
theorem d0_9 : Dc code 9 (.iload_n 0) 1 10 := ⟨by decide +kernel, rfl⟩
theorem d0_10 : Dc code 10 (.ldc 7) 2 12 := ⟨by decide +kernel, rfl⟩
theorem d0_12 : Dc code 12 (.iand) 1 13 := ⟨by decide +kernel, rfl⟩
theorem d0_13 : Dc code 13 (.bipush 13) 2 15 := ⟨by decide +kernel, rfl⟩
theorem d0_15 : Dc code 15 (.irem) 1 16 := ⟨by decide +kernel, rfl⟩
theorem d0_16 : Dc code 16 (.iadd) 1 17 := ⟨by decide +kernel, rfl⟩
theorem d0_17 : Dc code 17 (.istore 4) 2 19 := ⟨by decide +kernel, rfl⟩
theorem d0_19 : Bi code 19 (Instr.goto) 25 22 := ⟨6, by decide +kernel, by decide, by decide, rfl⟩
theorem pn_rm0 : plainName "com/example/egret/egret/service/OutcomeDeliveredPinLaw" = true := by first | (simp [plainName, overriddenIn]; done) | decide +kernel
set_option maxRecDepth 65536 in
set_option maxHeartbeats 40000000 in
theorem rm0 (l : Launch) (Z : State) (a0 : Array Value) (hw : ∀ d ∈ tables_1, d.before a0 Z = true) (a sel c1 c2 : Int32) (h0 : Heap) (OL : Old Z Z.heap.size h0) (cs : Int32) (SCS : Sta Z Z.heap "java/lang/String" "COMPACT_STRINGS" "Z" (.int cs)) (ncs : ¬ cs = 0) :
    Met l Z x code maxLocals ret room_1 #[(.int a), (.int sel), (.int c1), (.int c2)] h0 (fun v _ => v = some (.int 1)) := by
  refine met_of (Ls := #[.val (.int a), .val (.int sel), .val (.int c1), .val (.int c2), .unset, .unset, .unset, .unset, .unset, .unset, .unset, .unset]) (plainFor_of_name pn_rm0) (fun m => by first | (simp [entryFrame, mkF, argsToLocals, Value.category, maxLocals]; done) | rfl) (fun p e s m below meth c cx => ?_)
  refine g_iloadN cx d0_0 rfl ?_
  refine g_iconst cx d0_1 (v := (1 : Int32)) rfl ?_
  refine g_iand cx d0_2 ?_
  refine g_if_eq cx d0_3 (fun hc3 => ?_) (fun hc3 => ?_)
  · refine g_iloadN cx d0_22 rfl ?_
    refine g_istore cx d0_23 (Ls' := #[.val (.int a), .val (.int sel), .val (.int c1), .val (.int c2), .val (.int a), .unset, .unset, .unset, .unset, .unset, .unset, .unset]) rfl ?_
    refine g_iconst cx d0_25 (v := (1 : Int32)) rfl ?_
    refine g_newarray cx (ad := "[C") (by decide) d0_26 (hw _ (List.mem_of_getElem? (i := 1) rfl)) (by decide) (cap := 1) (by decide) (by decide) (k' := 1) (n' := 1) rfl rfl (by decide) (by decide) (fun h1 b2 cA3 gb4 E5 X6 => ?_)
    have g_b2 : Z.heap.size ≤ b2 := by rw [gb4]; exact OL.2.1
    have OL := OL.ext E5
    have A_b2 : Arx Z h1 b2 cA3 .char (1 : Int32) [(.int (0 : Int32))] (.int (0 : Int32)) "[C" := X6.pad (pad_rep [] (.int (0 : Int32)) 1)
    refine g_astore cx d0_28 rfl (Ls' := #[.val (.int a), .val (.int sel), .val (.int c1), .val (.int c2), .val (.int a), .val (.ref b2), .unset, .unset, .unset, .unset, .unset, .unset]) rfl ?_
    refine g_aload cx d0_30 rfl rfl ?_
    refine g_iconst cx d0_32 (v := (0 : Int32)) rfl ?_
    refine g_iloadN cx d0_33 rfl ?_
    refine g_sipush cx d0_34 (v := (255 : Int32)) rfl ?_
    refine g_iand cx d0_37 ?_
    refine g_i2c cx d0_38 ?_
    refine g_castore cx d0_39 A_b2 ⟨by decide, by decide⟩ (by decide) g_b2 (fun h7 W8 AA9 => ?_)
    have A_b2 : Arx Z h7 b2 cA3 .char (1 : Int32) [(.int (nar .char (((c1 &&& (255 : Int32))).toUInt32.toUInt16.toUInt32.toInt32)))] (.int (0 : Int32)) "[C" := AA9
    have OL := OL.wr W8 g_b2
    refine g_iconst cx d0_40 (v := (1 : Int32)) rfl ?_
    refine g_newarray cx (ad := "[C") (by decide) d0_41 (hw _ (List.mem_of_getElem? (i := 1) rfl)) (by decide) (cap := 1) (by decide) (by decide) (k' := 2) (n' := 2) rfl rfl (by decide) (by decide) (fun h10 b11 cA12 gb13 E14 X15 => ?_)
    have ne_b2_b11 : b2 ≠ b11 := Nat.ne_of_lt (by rw [gb13]; exact A_b2.lt)
    have g_b11 : Z.heap.size ≤ b11 := by rw [gb13]; exact OL.2.1
    have A_b2 := A_b2.ext E14
    have OL := OL.ext E14
    have A_b11 : Arx Z h10 b11 cA12 .char (1 : Int32) [(.int (0 : Int32))] (.int (0 : Int32)) "[C" := X15.pad (pad_rep [] (.int (0 : Int32)) 1)
    refine g_astore cx d0_43 rfl (Ls' := #[.val (.int a), .val (.int sel), .val (.int c1), .val (.int c2), .val (.int a), .val (.ref b2), .val (.ref b11), .unset, .unset, .unset, .unset, .unset]) rfl ?_
    refine g_aload cx d0_45 rfl rfl ?_
    refine g_iconst cx d0_47 (v := (0 : Int32)) rfl ?_
    refine g_iloadN cx d0_48 rfl ?_
    refine g_sipush cx d0_49 (v := (255 : Int32)) rfl ?_
    refine g_iand cx d0_52 ?_
    refine g_i2c cx d0_53 ?_
    refine g_castore cx d0_54 A_b11 ⟨by decide, by decide⟩ (by decide) g_b11 (fun h16 W17 AA18 => ?_)
    have A_b2 := A_b2.other W17 ne_b2_b11
    have A_b11 : Arx Z h16 b11 cA12 .char (1 : Int32) [(.int (nar .char (((c2 &&& (255 : Int32))).toUInt32.toUInt16.toUInt32.toInt32)))] (.int (0 : Int32)) "[C" := AA18
    have OL := OL.wr W17 g_b11
    refine g_new cx d0_55 (hw _ (List.mem_of_getElem? (i := 2) rfl)) (hw _ (List.mem_of_getElem? (i := 3) rfl)) (hw _ (List.mem_of_getElem? (i := 4) rfl)) (k' := 3) (n' := 5) rfl rfl (by decide) (by decide) (fun h19 b20 gb21 E22 X23 D24 => ?_)
    have ne_b2_b20 : b2 ≠ b20 := Nat.ne_of_lt (by rw [gb21]; exact A_b2.lt)
    have ne_b11_b20 : b11 ≠ b20 := Nat.ne_of_lt (by rw [gb21]; exact A_b11.lt)
    have g_b20 : Z.heap.size ≤ b20 := by rw [gb21]; exact OL.2.1
    have A_b2 := A_b2.ext E22
    have A_b11 := A_b11.ext E22
    have OL := OL.ext E22
    have O_b20 := ObO.new hw X23 D24
    refine g_dup cx d0_58 rfl ?_
    refine g_iload cx d0_59 rfl ?_
    refine g_new cx d0_61 (hw _ (List.mem_of_getElem? (i := 5) rfl)) (hw _ (List.mem_of_getElem? (i := 6) rfl)) (hw _ (List.mem_of_getElem? (i := 7) rfl)) (k' := 4) (n' := 9) rfl rfl (by decide) (by decide) (fun h25 b26 gb27 E28 X29 D30 => ?_)
    have ne_b20_b26 : b20 ≠ b26 := Nat.ne_of_lt (by rw [gb27]; exact O_b20.lt)
    have ne_b2_b26 : b2 ≠ b26 := Nat.ne_of_lt (by rw [gb27]; exact A_b2.lt)
    have ne_b11_b26 : b11 ≠ b26 := Nat.ne_of_lt (by rw [gb27]; exact A_b11.lt)
    have g_b26 : Z.heap.size ≤ b26 := by rw [gb27]; exact OL.2.1
    have O_b20 := O_b20.ext E28
    have A_b2 := A_b2.ext E28
    have A_b11 := A_b11.ext E28
    have OL := OL.ext E28
    have O_b26 := ObS.new hw X29 D30
    refine g_dup cx d0_64 rfl ?_
    refine g_aload cx d0_65 rfl rfl ?_
    have lt_b26 := O_b26.lt
    refine g_special cx (y := (⟨"java/lang/String", "<init>", "([C)V"⟩ : MethodName)) (a := b26) d0_67 rfl rfl (hw _ (List.mem_of_getElem? (i := 8) rfl)) (hw _ (List.mem_of_getElem? (i := 9) rfl)) (hw _ (List.mem_of_getElem? (i := 7) rfl)) (hw _ (List.mem_of_getElem? (i := 10) rfl)) (by decide) (bytes := jdk_42_method_3_code) (maxL' := 2) (M := (ra1 l Z a0 hw b26 b2 c1 cA3 _ O_b26 A_b2 (Ne.symm ne_b2_b26) g_b26 g_b2 OL cs SCS ncs)) rfl (lenOf pd_4 rfl) (by decide) (W := 4) (Nat.le_of_eq rfl) (by decide) (k' := 5) (n' := 10) rfl rfl (by decide) (by decide) (argsL := [(.ref b2)]) (rest := [(.ref b26), (.int a), (.ref b20), (.ref b20)]) rfl (fun v37 h36 q38 => ?_)
    obtain ⟨b31, cA32, hq33, hq34, rfl, K35, sq_b31, A_b31, O_b26⟩ := q38
    have ne_b20_b31 : b20 ≠ b31 := Nat.ne_of_lt (Nat.lt_of_lt_of_le O_b20.lt sq_b31)
    have ne_b26_b31 : b26 ≠ b31 := Nat.ne_of_lt (Nat.lt_of_lt_of_le lt_b26 sq_b31)
    have ne_b2_b31 : b2 ≠ b31 := Nat.ne_of_lt (Nat.lt_of_lt_of_le A_b2.lt sq_b31)
    have ne_b11_b31 : b11 ≠ b31 := Nat.ne_of_lt (Nat.lt_of_lt_of_le A_b11.lt sq_b31)
    have g_b31 : Z.heap.size ≤ b31 := Nat.le_trans OL.2.1 sq_b31
    have O_b20 := O_b20.keep K35 (ninS ne_b20_b26 nin0)
    have A_b2 := A_b2.keep K35 (ninS ne_b2_b26 nin0)
    have A_b11 := A_b11.keep K35 (ninS ne_b11_b26 nin0)
    have OL := OL.keep K35 (allS g_b26 all0)
    refine G.cast (st' := [(.ref b26), (.int a), (.ref b20), (.ref b20)]) ?_ rfl
    refine g_new cx d0_70 (hw _ (List.mem_of_getElem? (i := 5) rfl)) (hw _ (List.mem_of_getElem? (i := 6) rfl)) (hw _ (List.mem_of_getElem? (i := 7) rfl)) (k' := 6) (n' := 14) rfl rfl (by decide) (by decide) (fun h39 b40 gb41 E42 X43 D44 => ?_)
    have ne_b20_b40 : b20 ≠ b40 := Nat.ne_of_lt (by rw [gb41]; exact O_b20.lt)
    have ne_b26_b40 : b26 ≠ b40 := Nat.ne_of_lt (by rw [gb41]; exact O_b26.lt)
    have ne_b2_b40 : b2 ≠ b40 := Nat.ne_of_lt (by rw [gb41]; exact A_b2.lt)
    have ne_b11_b40 : b11 ≠ b40 := Nat.ne_of_lt (by rw [gb41]; exact A_b11.lt)
    have ne_b31_b40 : b31 ≠ b40 := Nat.ne_of_lt (by rw [gb41]; exact A_b31.lt)
    have g_b40 : Z.heap.size ≤ b40 := by rw [gb41]; exact OL.2.1
    have O_b20 := O_b20.ext E42
    have O_b26 := O_b26.ext E42
    have A_b2 := A_b2.ext E42
    have A_b11 := A_b11.ext E42
    have A_b31 := A_b31.ext E42
    have OL := OL.ext E42
    have O_b40 := ObS.new hw X43 D44
    refine g_dup cx d0_73 rfl ?_
    refine g_aload cx d0_74 rfl rfl ?_
    have lt_b40 := O_b40.lt
    refine g_special cx (y := (⟨"java/lang/String", "<init>", "([C)V"⟩ : MethodName)) (a := b40) d0_76 rfl rfl (hw _ (List.mem_of_getElem? (i := 8) rfl)) (hw _ (List.mem_of_getElem? (i := 9) rfl)) (hw _ (List.mem_of_getElem? (i := 7) rfl)) (hw _ (List.mem_of_getElem? (i := 10) rfl)) (by decide) (bytes := jdk_42_method_3_code) (maxL' := 2) (M := (ra1 l Z a0 hw b40 b11 c2 cA12 _ O_b40 A_b11 (Ne.symm ne_b11_b40) g_b40 g_b11 OL cs SCS ncs)) rfl (lenOf pd_4 rfl) (by decide) (W := 5) (Nat.le_of_eq rfl) (by decide) (k' := 7) (n' := 15) rfl rfl (by decide) (by decide) (argsL := [(.ref b11)]) (rest := [(.ref b40), (.ref b26), (.int a), (.ref b20), (.ref b20)]) rfl (fun v51 h50 q52 => ?_)
    obtain ⟨b45, cA46, hq47, hq48, rfl, K49, sq_b45, A_b45, O_b40⟩ := q52
    have ne_b20_b45 : b20 ≠ b45 := Nat.ne_of_lt (Nat.lt_of_lt_of_le O_b20.lt sq_b45)
    have ne_b26_b45 : b26 ≠ b45 := Nat.ne_of_lt (Nat.lt_of_lt_of_le O_b26.lt sq_b45)
    have ne_b40_b45 : b40 ≠ b45 := Nat.ne_of_lt (Nat.lt_of_lt_of_le lt_b40 sq_b45)
    have ne_b2_b45 : b2 ≠ b45 := Nat.ne_of_lt (Nat.lt_of_lt_of_le A_b2.lt sq_b45)
    have ne_b11_b45 : b11 ≠ b45 := Nat.ne_of_lt (Nat.lt_of_lt_of_le A_b11.lt sq_b45)
    have ne_b31_b45 : b31 ≠ b45 := Nat.ne_of_lt (Nat.lt_of_lt_of_le A_b31.lt sq_b45)
    have g_b45 : Z.heap.size ≤ b45 := Nat.le_trans OL.2.1 sq_b45
    have O_b20 := O_b20.keep K49 (ninS ne_b20_b40 nin0)
    have O_b26 := O_b26.keep K49 (ninS ne_b26_b40 nin0)
    have A_b2 := A_b2.keep K49 (ninS ne_b2_b40 nin0)
    have A_b11 := A_b11.keep K49 (ninS ne_b11_b40 nin0)
    have A_b31 := A_b31.keep K49 (ninS ne_b31_b40 nin0)
    have OL := OL.keep K49 (allS g_b40 all0)
    refine G.cast (st' := [(.ref b40), (.ref b26), (.int a), (.ref b20), (.ref b20)]) ?_ rfl
    refine g_special cx (y := (⟨"com/example/egret/egret/service/Outcome", "<init>", "(ILjava/lang/String;Ljava/lang/String;)V"⟩ : MethodName)) (a := b20) d0_79 rfl rfl (hw _ (List.mem_of_getElem? (i := 34) rfl)) (hw _ (List.mem_of_getElem? (i := 35) rfl)) (hw _ (List.mem_of_getElem? (i := 4) rfl)) (hw _ (List.mem_of_getElem? (i := 36) rfl)) (by decide) (bytes := prog_13_method_1_code) (maxL' := 4) (M := (ra6 l Z a0 hw b20 b26 b31 b40 b45 a (nar .byte (((nar .char (((c1 &&& (255 : Int32))).toUInt32.toUInt16.toUInt32.toInt32))).toInt8.toInt32)) (nar .byte (((nar .char (((c2 &&& (255 : Int32))).toUInt32.toUInt16.toUInt32.toInt32))).toInt8.toInt32)) cA32 cA46 _ O_b20 O_b26 O_b40 A_b31 A_b45 ne_b20_b26 ne_b20_b31 ne_b26_b31 ne_b20_b40 ne_b26_b40 ne_b31_b40 ne_b20_b45 ne_b26_b45 ne_b31_b45 ne_b40_b45 g_b20 g_b26 g_b31 g_b40 g_b45 OL cs SCS ncs)) rfl (lenOf pd_6 rfl) (by decide) (W := 1) (Nat.le_of_eq rfl) (by decide) (k' := 7) (n' := 15) rfl rfl (by decide) (by decide) (argsL := [(.int a), (.ref b26), (.ref b40)]) (rest := [(.ref b20)]) rfl (fun v55 h54 q56 => ?_)
    obtain ⟨rfl, K53, O_b20⟩ := q56
    have O_b26 := O_b26.keep K53 (ninS (Ne.symm ne_b20_b26) nin0)
    have O_b40 := O_b40.keep K53 (ninS (Ne.symm ne_b20_b40) nin0)
    have A_b2 := A_b2.keep K53 (ninS ne_b2_b20 nin0)
    have A_b11 := A_b11.keep K53 (ninS ne_b11_b20 nin0)
    have A_b31 := A_b31.keep K53 (ninS (Ne.symm ne_b20_b31) nin0)
    have A_b45 := A_b45.keep K53 (ninS (Ne.symm ne_b20_b45) nin0)
    have OL := OL.keep K53 (allS g_b20 all0)
    refine G.cast (st' := [(.ref b20)]) ?_ rfl
    refine g_astore cx d0_82 rfl (Ls' := #[.val (.int a), .val (.int sel), .val (.int c1), .val (.int c2), .val (.int a), .val (.ref b2), .val (.ref b11), .val (.ref b20), .unset, .unset, .unset, .unset]) rfl ?_
    refine g_aload cx d0_84 rfl rfl ?_
    refine g_virtual cx (y := (⟨"com/example/egret/egret/service/Outcome", "delivered", "()Z"⟩ : MethodName)) (z := (⟨"com/example/egret/egret/service/Outcome", "delivered", "()Z"⟩ : MethodName)) (a := b20) d0_86 (hw _ (List.mem_of_getElem? (i := 49) rfl)) (hw _ (List.mem_of_getElem? (i := 50) rfl)) (hw _ (List.mem_of_getElem? (i := 4) rfl)) (hw _ (List.mem_of_getElem? (i := 53) rfl)) (hw _ (List.mem_of_getElem? (i := 52) rfl)) (hw _ (List.mem_of_getElem? (i := 51) rfl)) rfl (by decide) O_b20.1 (bytes := prog_13_method_7_code) (maxL' := 1) (M := (ra7 l Z a0 hw b20 b26 b31 b40 b45 a (nar .byte (((nar .char (((c1 &&& (255 : Int32))).toUInt32.toUInt16.toUInt32.toInt32))).toInt8.toInt32)) (nar .byte (((nar .char (((c2 &&& (255 : Int32))).toUInt32.toUInt16.toUInt32.toInt32))).toInt8.toInt32)) cA32 cA46 _ O_b20 O_b26 O_b40 A_b31 A_b45 ne_b20_b26 ne_b20_b31 ne_b26_b31 ne_b20_b40 ne_b26_b40 ne_b31_b40 ne_b20_b45 ne_b26_b45 ne_b31_b45 ne_b40_b45 g_b20 g_b26 g_b31 g_b40 g_b45 OL cs SCS ncs)) rfl (lenOf pd_7 rfl) (by decide) (W := 0) (Nat.le_of_eq rfl) (by decide) (k' := 7) (n' := 15) rfl rfl (by decide) (by decide) (argsL := []) (rest := []) rfl (fun v66 h65 q67 => ?_)
    rcases q67 with ⟨hq57, rfl, rfl⟩ | ⟨hq59, hq60, rfl, rfl⟩ | ⟨hq62, hq63, rfl, rfl⟩
    · refine G.cast (st' := [(.int (0 : Int32))]) ?_ rfl
      refine g_istore cx d0_89 (Ls' := #[.val (.int a), .val (.int sel), .val (.int c1), .val (.int c2), .val (.int a), .val (.ref b2), .val (.ref b11), .val (.ref b20), .val (.int (0 : Int32)), .unset, .unset, .unset]) rfl ?_
      refine g_iload cx d0_91 rfl ?_
      refine g_i2l cx d0_93 ?_
      refine g_ldcJ cx d0_94 (hw _ (List.mem_of_getElem? (i := 54) rfl)) ?_
      refine g_lsub cx d0_97 ?_
      refine g_lstore cx d0_98 (Ls' := #[.val (.int a), .val (.int sel), .val (.int c1), .val (.int c2), .val (.int a), .val (.ref b2), .val (.ref b11), .val (.ref b20), .val (.int (0 : Int32)), .val (.long (((a).toInt64) - (200 : Int64))), .second, .unset]) rfl ?_
      refine g_lload cx d0_100 rfl ?_
      refine g_lconst cx d0_102 (v := (0 : Int64)) rfl ?_
      refine g_lif_lt cx d0_103 d0_104 (fun hc104 => ?_) (fun hc104 => ?_)
      · refine g_iconst cx d0_120 (v := (0 : Int32)) rfl ?_
        refine g_istore cx d0_121 (Ls' := #[.val (.int a), .val (.int sel), .val (.int c1), .val (.int c2), .val (.int a), .val (.ref b2), .val (.ref b11), .val (.ref b20), .val (.int (0 : Int32)), .val (.long (((a).toInt64) - (200 : Int64))), .second, .val (.int (0 : Int32))]) rfl ?_
        refine g_iload cx d0_123 rfl ?_
        refine g_iload cx d0_125 rfl ?_
        refine g_static cx (y := (⟨"com/example/egret/egret/service/OutcomeDeliveredPinLaw", "isSuccessStatus", "(I)Z"⟩ : MethodName)) d0_127 (hw _ (List.mem_of_getElem? (i := 55) rfl)) (hw _ (List.mem_of_getElem? (i := 56) rfl)) (hw _ (List.mem_of_getElem? (i := 57) rfl)) (hw _ (List.mem_of_getElem? (i := 58) rfl)) (by decide) (bytes := method_2_code) (maxL' := 1) (M := (ra8 l Z a0 hw a _  OL cs SCS ncs)) rfl (lenOf pd_8 rfl) (by decide) (W := 1) (Nat.le_of_eq rfl) (by decide) (k' := 7) (n' := 15) rfl rfl (by decide) (by decide) (argsL := [(.int a)]) (rest := [(.int (0 : Int32))]) rfl (fun v95 h94 q96 => ?_)
        rcases q96 with ⟨hq68, rfl, rfl⟩ | ⟨hq70, hq71, rfl, rfl⟩ | ⟨hq73, hq74, hq75, rfl, rfl⟩ | ⟨hq77, hq78, hq79, hq80, rfl, rfl⟩ | ⟨hq82, hq83, hq84, hq85, hq86, rfl, rfl⟩ | ⟨hq88, hq89, hq90, hq91, hq92, rfl, rfl⟩
        · refine G.cast (st' := [(.int (1 : Int32)), (.int (0 : Int32))]) ?_ rfl
          refine g_icmp_ne cx d0_130 (fun hc130 => ?_) (fun q => absurd q (fun q => by revert q; decide))
          refine g_iconst cx d0_144 (v := (0 : Int32)) rfl ?_
          refine g_retZ cx d0_145 rfl rfl (by decide) (by decide) ?_
          exfalso
          have i_hc3 : ((sel &&& (1 : Int32))).toInt = ((0 : Int32)).toInt := congrArg Int32.toInt hc3
          have i_hq33 : ¬ (cs).toInt = ((0 : Int32)).toInt := fun z => hq33 (Int32.toInt_inj.mp z)
          have i_hq34 : ¬ ((255 : Int32)).toInt < ((nar .char (((c1 &&& (255 : Int32))).toUInt32.toUInt16.toUInt32.toInt32))).toInt := fun z => hq34 (Int32.lt_iff_toInt_lt.mpr z)
          have i_hq47 : ¬ (cs).toInt = ((0 : Int32)).toInt := fun z => hq47 (Int32.toInt_inj.mp z)
          have i_hq48 : ¬ ((255 : Int32)).toInt < ((nar .char (((c2 &&& (255 : Int32))).toUInt32.toUInt16.toUInt32.toInt32))).toInt := fun z => hq48 (Int32.lt_iff_toInt_lt.mpr z)
          have i_hq57 : (a).toInt < ((200 : Int32)).toInt := Int32.lt_iff_toInt_lt.mp hq57
          have i_hc104 : ((((a).toInt64) - (200 : Int64))).toInt < ((0 : Int64)).toInt := Int64.lt_iff_toInt_lt.mp hc104
          have i_hq68 : (a).toInt = ((200 : Int32)).toInt := congrArg Int32.toInt hq68
          have i_hc130 : ¬ ((0 : Int32)).toInt = ((1 : Int32)).toInt := fun z => hc130 (Int32.toInt_inj.mp z)
          have r2 := rng32 sel
          have e1 : ((sel &&& (1 : Int32))).toInt = (sel).toInt % 2 := c_mask sel (1 : Int32) 1 (by decide) (by decide)
          have e3 : (0 : Int32).toInt = 0 := rfl
          have r4 := rng32 cs
          have e5 : (255 : Int32).toInt = 255 := rfl
          have r9 := rng32 c1
          have e8 : ((c1 &&& (255 : Int32))).toInt = (c1).toInt % 256 := c_mask c1 (255 : Int32) 8 (by decide) (by decide)
          have e7 := c_i2c (c1 &&& (255 : Int32))
          have e6 : (((nar .char (((c1 &&& (255 : Int32))).toUInt32.toUInt16.toUInt32.toInt32))).toInt - ((((c1 &&& (255 : Int32))).toUInt32.toUInt16.toUInt32.toInt32)).toInt) % 65536 = 0 ∧ 0 ≤ ((nar .char (((c1 &&& (255 : Int32))).toUInt32.toUInt16.toUInt32.toInt32))).toInt ∧ ((nar .char (((c1 &&& (255 : Int32))).toUInt32.toUInt16.toUInt32.toInt32))).toInt < 65536 := c_i2c (((c1 &&& (255 : Int32))).toUInt32.toUInt16.toUInt32.toInt32)
          have r13 := rng32 c2
          have e12 : ((c2 &&& (255 : Int32))).toInt = (c2).toInt % 256 := c_mask c2 (255 : Int32) 8 (by decide) (by decide)
          have e11 := c_i2c (c2 &&& (255 : Int32))
          have e10 : (((nar .char (((c2 &&& (255 : Int32))).toUInt32.toUInt16.toUInt32.toInt32))).toInt - ((((c2 &&& (255 : Int32))).toUInt32.toUInt16.toUInt32.toInt32)).toInt) % 65536 = 0 ∧ 0 ≤ ((nar .char (((c2 &&& (255 : Int32))).toUInt32.toUInt16.toUInt32.toInt32))).toInt ∧ ((nar .char (((c2 &&& (255 : Int32))).toUInt32.toUInt16.toUInt32.toInt32))).toInt < 65536 := c_i2c (((c2 &&& (255 : Int32))).toUInt32.toUInt16.toUInt32.toInt32)
          have r14 := rng32 a
          have e15 : (200 : Int32).toInt = 200 := rfl
          have e17 := c_i2l a
          have e18 : (200 : Int64).toInt = 200 := rfl
          have e16 := c_lsub ((a).toInt64) (200 : Int64)
          have r16 := rng64 (((a).toInt64) - (200 : Int64))
          have e19 : (0 : Int64).toInt = 0 := rfl
          have e20 : (1 : Int32).toInt = 1 := rfl
          omega
        · refine G.cast (st' := [(.int (1 : Int32)), (.int (0 : Int32))]) ?_ rfl
          refine g_icmp_ne cx d0_130 (fun hc130 => ?_) (fun q => absurd q (fun q => by revert q; decide))
          refine g_iconst cx d0_144 (v := (0 : Int32)) rfl ?_
          refine g_retZ cx d0_145 rfl rfl (by decide) (by decide) ?_
          exfalso
          have i_hc3 : ((sel &&& (1 : Int32))).toInt = ((0 : Int32)).toInt := congrArg Int32.toInt hc3
          have i_hq33 : ¬ (cs).toInt = ((0 : Int32)).toInt := fun z => hq33 (Int32.toInt_inj.mp z)
          have i_hq34 : ¬ ((255 : Int32)).toInt < ((nar .char (((c1 &&& (255 : Int32))).toUInt32.toUInt16.toUInt32.toInt32))).toInt := fun z => hq34 (Int32.lt_iff_toInt_lt.mpr z)
          have i_hq47 : ¬ (cs).toInt = ((0 : Int32)).toInt := fun z => hq47 (Int32.toInt_inj.mp z)
          have i_hq48 : ¬ ((255 : Int32)).toInt < ((nar .char (((c2 &&& (255 : Int32))).toUInt32.toUInt16.toUInt32.toInt32))).toInt := fun z => hq48 (Int32.lt_iff_toInt_lt.mpr z)
          have i_hq57 : (a).toInt < ((200 : Int32)).toInt := Int32.lt_iff_toInt_lt.mp hq57
          have i_hc104 : ((((a).toInt64) - (200 : Int64))).toInt < ((0 : Int64)).toInt := Int64.lt_iff_toInt_lt.mp hc104
          have i_hq70 : ¬ (a).toInt = ((200 : Int32)).toInt := fun z => hq70 (Int32.toInt_inj.mp z)
          have i_hq71 : (a).toInt = ((201 : Int32)).toInt := congrArg Int32.toInt hq71
          have i_hc130 : ¬ ((0 : Int32)).toInt = ((1 : Int32)).toInt := fun z => hc130 (Int32.toInt_inj.mp z)
          have r2 := rng32 sel
          have e1 : ((sel &&& (1 : Int32))).toInt = (sel).toInt % 2 := c_mask sel (1 : Int32) 1 (by decide) (by decide)
          have e3 : (0 : Int32).toInt = 0 := rfl
          have r4 := rng32 cs
          have e5 : (255 : Int32).toInt = 255 := rfl
          have r9 := rng32 c1
          have e8 : ((c1 &&& (255 : Int32))).toInt = (c1).toInt % 256 := c_mask c1 (255 : Int32) 8 (by decide) (by decide)
          have e7 := c_i2c (c1 &&& (255 : Int32))
          have e6 : (((nar .char (((c1 &&& (255 : Int32))).toUInt32.toUInt16.toUInt32.toInt32))).toInt - ((((c1 &&& (255 : Int32))).toUInt32.toUInt16.toUInt32.toInt32)).toInt) % 65536 = 0 ∧ 0 ≤ ((nar .char (((c1 &&& (255 : Int32))).toUInt32.toUInt16.toUInt32.toInt32))).toInt ∧ ((nar .char (((c1 &&& (255 : Int32))).toUInt32.toUInt16.toUInt32.toInt32))).toInt < 65536 := c_i2c (((c1 &&& (255 : Int32))).toUInt32.toUInt16.toUInt32.toInt32)
          have r13 := rng32 c2
          have e12 : ((c2 &&& (255 : Int32))).toInt = (c2).toInt % 256 := c_mask c2 (255 : Int32) 8 (by decide) (by decide)
          have e11 := c_i2c (c2 &&& (255 : Int32))
          have e10 : (((nar .char (((c2 &&& (255 : Int32))).toUInt32.toUInt16.toUInt32.toInt32))).toInt - ((((c2 &&& (255 : Int32))).toUInt32.toUInt16.toUInt32.toInt32)).toInt) % 65536 = 0 ∧ 0 ≤ ((nar .char (((c2 &&& (255 : Int32))).toUInt32.toUInt16.toUInt32.toInt32))).toInt ∧ ((nar .char (((c2 &&& (255 : Int32))).toUInt32.toUInt16.toUInt32.toInt32))).toInt < 65536 := c_i2c (((c2 &&& (255 : Int32))).toUInt32.toUInt16.toUInt32.toInt32)
          have r14 := rng32 a
          have e15 : (200 : Int32).toInt = 200 := rfl
          have e17 := c_i2l a
          have e18 : (200 : Int64).toInt = 200 := rfl
          have e16 := c_lsub ((a).toInt64) (200 : Int64)
          have r16 := rng64 (((a).toInt64) - (200 : Int64))
          have e19 : (0 : Int64).toInt = 0 := rfl
          have e20 : (201 : Int32).toInt = 201 := rfl
          have e21 : (1 : Int32).toInt = 1 := rfl
          omega
        · refine G.cast (st' := [(.int (1 : Int32)), (.int (0 : Int32))]) ?_ rfl
          refine g_icmp_ne cx d0_130 (fun hc130 => ?_) (fun q => absurd q (fun q => by revert q; decide))
          refine g_iconst cx d0_144 (v := (0 : Int32)) rfl ?_
          refine g_retZ cx d0_145 rfl rfl (by decide) (by decide) ?_
          exfalso
          have i_hc3 : ((sel &&& (1 : Int32))).toInt = ((0 : Int32)).toInt := congrArg Int32.toInt hc3
          have i_hq33 : ¬ (cs).toInt = ((0 : Int32)).toInt := fun z => hq33 (Int32.toInt_inj.mp z)
          have i_hq34 : ¬ ((255 : Int32)).toInt < ((nar .char (((c1 &&& (255 : Int32))).toUInt32.toUInt16.toUInt32.toInt32))).toInt := fun z => hq34 (Int32.lt_iff_toInt_lt.mpr z)
          have i_hq47 : ¬ (cs).toInt = ((0 : Int32)).toInt := fun z => hq47 (Int32.toInt_inj.mp z)
          have i_hq48 : ¬ ((255 : Int32)).toInt < ((nar .char (((c2 &&& (255 : Int32))).toUInt32.toUInt16.toUInt32.toInt32))).toInt := fun z => hq48 (Int32.lt_iff_toInt_lt.mpr z)
          have i_hq57 : (a).toInt < ((200 : Int32)).toInt := Int32.lt_iff_toInt_lt.mp hq57
          have i_hc104 : ((((a).toInt64) - (200 : Int64))).toInt < ((0 : Int64)).toInt := Int64.lt_iff_toInt_lt.mp hc104
          have i_hq73 : ¬ (a).toInt = ((200 : Int32)).toInt := fun z => hq73 (Int32.toInt_inj.mp z)
          have i_hq74 : ¬ (a).toInt = ((201 : Int32)).toInt := fun z => hq74 (Int32.toInt_inj.mp z)
          have i_hq75 : (a).toInt = ((202 : Int32)).toInt := congrArg Int32.toInt hq75
          have i_hc130 : ¬ ((0 : Int32)).toInt = ((1 : Int32)).toInt := fun z => hc130 (Int32.toInt_inj.mp z)
          have r2 := rng32 sel
          have e1 : ((sel &&& (1 : Int32))).toInt = (sel).toInt % 2 := c_mask sel (1 : Int32) 1 (by decide) (by decide)
          have e3 : (0 : Int32).toInt = 0 := rfl
          have r4 := rng32 cs
          have e5 : (255 : Int32).toInt = 255 := rfl
          have r9 := rng32 c1
          have e8 : ((c1 &&& (255 : Int32))).toInt = (c1).toInt % 256 := c_mask c1 (255 : Int32) 8 (by decide) (by decide)
          have e7 := c_i2c (c1 &&& (255 : Int32))
          have e6 : (((nar .char (((c1 &&& (255 : Int32))).toUInt32.toUInt16.toUInt32.toInt32))).toInt - ((((c1 &&& (255 : Int32))).toUInt32.toUInt16.toUInt32.toInt32)).toInt) % 65536 = 0 ∧ 0 ≤ ((nar .char (((c1 &&& (255 : Int32))).toUInt32.toUInt16.toUInt32.toInt32))).toInt ∧ ((nar .char (((c1 &&& (255 : Int32))).toUInt32.toUInt16.toUInt32.toInt32))).toInt < 65536 := c_i2c (((c1 &&& (255 : Int32))).toUInt32.toUInt16.toUInt32.toInt32)
          have r13 := rng32 c2
          have e12 : ((c2 &&& (255 : Int32))).toInt = (c2).toInt % 256 := c_mask c2 (255 : Int32) 8 (by decide) (by decide)
          have e11 := c_i2c (c2 &&& (255 : Int32))
          have e10 : (((nar .char (((c2 &&& (255 : Int32))).toUInt32.toUInt16.toUInt32.toInt32))).toInt - ((((c2 &&& (255 : Int32))).toUInt32.toUInt16.toUInt32.toInt32)).toInt) % 65536 = 0 ∧ 0 ≤ ((nar .char (((c2 &&& (255 : Int32))).toUInt32.toUInt16.toUInt32.toInt32))).toInt ∧ ((nar .char (((c2 &&& (255 : Int32))).toUInt32.toUInt16.toUInt32.toInt32))).toInt < 65536 := c_i2c (((c2 &&& (255 : Int32))).toUInt32.toUInt16.toUInt32.toInt32)
          have r14 := rng32 a
          have e15 : (200 : Int32).toInt = 200 := rfl
          have e17 := c_i2l a
          have e18 : (200 : Int64).toInt = 200 := rfl
          have e16 := c_lsub ((a).toInt64) (200 : Int64)
          have r16 := rng64 (((a).toInt64) - (200 : Int64))
          have e19 : (0 : Int64).toInt = 0 := rfl
          have e20 : (201 : Int32).toInt = 201 := rfl
          have e21 : (202 : Int32).toInt = 202 := rfl
          have e22 : (1 : Int32).toInt = 1 := rfl
          omega
        · refine G.cast (st' := [(.int (1 : Int32)), (.int (0 : Int32))]) ?_ rfl
          refine g_icmp_ne cx d0_130 (fun hc130 => ?_) (fun q => absurd q (fun q => by revert q; decide))
          refine g_iconst cx d0_144 (v := (0 : Int32)) rfl ?_
          refine g_retZ cx d0_145 rfl rfl (by decide) (by decide) ?_
          exfalso
          have i_hc3 : ((sel &&& (1 : Int32))).toInt = ((0 : Int32)).toInt := congrArg Int32.toInt hc3
          have i_hq33 : ¬ (cs).toInt = ((0 : Int32)).toInt := fun z => hq33 (Int32.toInt_inj.mp z)
          have i_hq34 : ¬ ((255 : Int32)).toInt < ((nar .char (((c1 &&& (255 : Int32))).toUInt32.toUInt16.toUInt32.toInt32))).toInt := fun z => hq34 (Int32.lt_iff_toInt_lt.mpr z)
          have i_hq47 : ¬ (cs).toInt = ((0 : Int32)).toInt := fun z => hq47 (Int32.toInt_inj.mp z)
          have i_hq48 : ¬ ((255 : Int32)).toInt < ((nar .char (((c2 &&& (255 : Int32))).toUInt32.toUInt16.toUInt32.toInt32))).toInt := fun z => hq48 (Int32.lt_iff_toInt_lt.mpr z)
          have i_hq57 : (a).toInt < ((200 : Int32)).toInt := Int32.lt_iff_toInt_lt.mp hq57
          have i_hc104 : ((((a).toInt64) - (200 : Int64))).toInt < ((0 : Int64)).toInt := Int64.lt_iff_toInt_lt.mp hc104
          have i_hq77 : ¬ (a).toInt = ((200 : Int32)).toInt := fun z => hq77 (Int32.toInt_inj.mp z)
          have i_hq78 : ¬ (a).toInt = ((201 : Int32)).toInt := fun z => hq78 (Int32.toInt_inj.mp z)
          have i_hq79 : ¬ (a).toInt = ((202 : Int32)).toInt := fun z => hq79 (Int32.toInt_inj.mp z)
          have i_hq80 : (a).toInt = ((203 : Int32)).toInt := congrArg Int32.toInt hq80
          have i_hc130 : ¬ ((0 : Int32)).toInt = ((1 : Int32)).toInt := fun z => hc130 (Int32.toInt_inj.mp z)
          have r2 := rng32 sel
          have e1 : ((sel &&& (1 : Int32))).toInt = (sel).toInt % 2 := c_mask sel (1 : Int32) 1 (by decide) (by decide)
          have e3 : (0 : Int32).toInt = 0 := rfl
          have r4 := rng32 cs
          have e5 : (255 : Int32).toInt = 255 := rfl
          have r9 := rng32 c1
          have e8 : ((c1 &&& (255 : Int32))).toInt = (c1).toInt % 256 := c_mask c1 (255 : Int32) 8 (by decide) (by decide)
          have e7 := c_i2c (c1 &&& (255 : Int32))
          have e6 : (((nar .char (((c1 &&& (255 : Int32))).toUInt32.toUInt16.toUInt32.toInt32))).toInt - ((((c1 &&& (255 : Int32))).toUInt32.toUInt16.toUInt32.toInt32)).toInt) % 65536 = 0 ∧ 0 ≤ ((nar .char (((c1 &&& (255 : Int32))).toUInt32.toUInt16.toUInt32.toInt32))).toInt ∧ ((nar .char (((c1 &&& (255 : Int32))).toUInt32.toUInt16.toUInt32.toInt32))).toInt < 65536 := c_i2c (((c1 &&& (255 : Int32))).toUInt32.toUInt16.toUInt32.toInt32)
          have r13 := rng32 c2
          have e12 : ((c2 &&& (255 : Int32))).toInt = (c2).toInt % 256 := c_mask c2 (255 : Int32) 8 (by decide) (by decide)
          have e11 := c_i2c (c2 &&& (255 : Int32))
          have e10 : (((nar .char (((c2 &&& (255 : Int32))).toUInt32.toUInt16.toUInt32.toInt32))).toInt - ((((c2 &&& (255 : Int32))).toUInt32.toUInt16.toUInt32.toInt32)).toInt) % 65536 = 0 ∧ 0 ≤ ((nar .char (((c2 &&& (255 : Int32))).toUInt32.toUInt16.toUInt32.toInt32))).toInt ∧ ((nar .char (((c2 &&& (255 : Int32))).toUInt32.toUInt16.toUInt32.toInt32))).toInt < 65536 := c_i2c (((c2 &&& (255 : Int32))).toUInt32.toUInt16.toUInt32.toInt32)
          have r14 := rng32 a
          have e15 : (200 : Int32).toInt = 200 := rfl
          have e17 := c_i2l a
          have e18 : (200 : Int64).toInt = 200 := rfl
          have e16 := c_lsub ((a).toInt64) (200 : Int64)
          have r16 := rng64 (((a).toInt64) - (200 : Int64))
          have e19 : (0 : Int64).toInt = 0 := rfl
          have e20 : (201 : Int32).toInt = 201 := rfl
          have e21 : (202 : Int32).toInt = 202 := rfl
          have e22 : (203 : Int32).toInt = 203 := rfl
          have e23 : (1 : Int32).toInt = 1 := rfl
          omega
        · refine G.cast (st' := [(.int (0 : Int32)), (.int (0 : Int32))]) ?_ rfl
          refine g_icmp_ne cx d0_130 (fun q => absurd q (fun q => by revert q; decide)) (fun hc130 => ?_)
          refine g_iload cx d0_133 rfl ?_
          refine g_iload cx d0_135 rfl ?_
          refine g_icmp_ne cx d0_137 (fun q => absurd q (fun q => by revert q; decide)) (fun hc137 => ?_)
          refine g_iconst cx d0_140 (v := (1 : Int32)) rfl ?_
          refine g_goto cx d0_141 ?_
          refine g_retZ cx d0_145 rfl rfl (by decide) (by decide) ?_
          rfl
        · refine G.cast (st' := [(.int (1 : Int32)), (.int (0 : Int32))]) ?_ rfl
          refine g_icmp_ne cx d0_130 (fun hc130 => ?_) (fun q => absurd q (fun q => by revert q; decide))
          refine g_iconst cx d0_144 (v := (0 : Int32)) rfl ?_
          refine g_retZ cx d0_145 rfl rfl (by decide) (by decide) ?_
          exfalso
          have i_hc3 : ((sel &&& (1 : Int32))).toInt = ((0 : Int32)).toInt := congrArg Int32.toInt hc3
          have i_hq33 : ¬ (cs).toInt = ((0 : Int32)).toInt := fun z => hq33 (Int32.toInt_inj.mp z)
          have i_hq34 : ¬ ((255 : Int32)).toInt < ((nar .char (((c1 &&& (255 : Int32))).toUInt32.toUInt16.toUInt32.toInt32))).toInt := fun z => hq34 (Int32.lt_iff_toInt_lt.mpr z)
          have i_hq47 : ¬ (cs).toInt = ((0 : Int32)).toInt := fun z => hq47 (Int32.toInt_inj.mp z)
          have i_hq48 : ¬ ((255 : Int32)).toInt < ((nar .char (((c2 &&& (255 : Int32))).toUInt32.toUInt16.toUInt32.toInt32))).toInt := fun z => hq48 (Int32.lt_iff_toInt_lt.mpr z)
          have i_hq57 : (a).toInt < ((200 : Int32)).toInt := Int32.lt_iff_toInt_lt.mp hq57
          have i_hc104 : ((((a).toInt64) - (200 : Int64))).toInt < ((0 : Int64)).toInt := Int64.lt_iff_toInt_lt.mp hc104
          have i_hq88 : ¬ (a).toInt = ((200 : Int32)).toInt := fun z => hq88 (Int32.toInt_inj.mp z)
          have i_hq89 : ¬ (a).toInt = ((201 : Int32)).toInt := fun z => hq89 (Int32.toInt_inj.mp z)
          have i_hq90 : ¬ (a).toInt = ((202 : Int32)).toInt := fun z => hq90 (Int32.toInt_inj.mp z)
          have i_hq91 : ¬ (a).toInt = ((203 : Int32)).toInt := fun z => hq91 (Int32.toInt_inj.mp z)
          have i_hq92 : (a).toInt = ((204 : Int32)).toInt := congrArg Int32.toInt hq92
          have i_hc130 : ¬ ((0 : Int32)).toInt = ((1 : Int32)).toInt := fun z => hc130 (Int32.toInt_inj.mp z)
          have r2 := rng32 sel
          have e1 : ((sel &&& (1 : Int32))).toInt = (sel).toInt % 2 := c_mask sel (1 : Int32) 1 (by decide) (by decide)
          have e3 : (0 : Int32).toInt = 0 := rfl
          have r4 := rng32 cs
          have e5 : (255 : Int32).toInt = 255 := rfl
          have r9 := rng32 c1
          have e8 : ((c1 &&& (255 : Int32))).toInt = (c1).toInt % 256 := c_mask c1 (255 : Int32) 8 (by decide) (by decide)
          have e7 := c_i2c (c1 &&& (255 : Int32))
          have e6 : (((nar .char (((c1 &&& (255 : Int32))).toUInt32.toUInt16.toUInt32.toInt32))).toInt - ((((c1 &&& (255 : Int32))).toUInt32.toUInt16.toUInt32.toInt32)).toInt) % 65536 = 0 ∧ 0 ≤ ((nar .char (((c1 &&& (255 : Int32))).toUInt32.toUInt16.toUInt32.toInt32))).toInt ∧ ((nar .char (((c1 &&& (255 : Int32))).toUInt32.toUInt16.toUInt32.toInt32))).toInt < 65536 := c_i2c (((c1 &&& (255 : Int32))).toUInt32.toUInt16.toUInt32.toInt32)
          have r13 := rng32 c2
          have e12 : ((c2 &&& (255 : Int32))).toInt = (c2).toInt % 256 := c_mask c2 (255 : Int32) 8 (by decide) (by decide)
          have e11 := c_i2c (c2 &&& (255 : Int32))
          have e10 : (((nar .char (((c2 &&& (255 : Int32))).toUInt32.toUInt16.toUInt32.toInt32))).toInt - ((((c2 &&& (255 : Int32))).toUInt32.toUInt16.toUInt32.toInt32)).toInt) % 65536 = 0 ∧ 0 ≤ ((nar .char (((c2 &&& (255 : Int32))).toUInt32.toUInt16.toUInt32.toInt32))).toInt ∧ ((nar .char (((c2 &&& (255 : Int32))).toUInt32.toUInt16.toUInt32.toInt32))).toInt < 65536 := c_i2c (((c2 &&& (255 : Int32))).toUInt32.toUInt16.toUInt32.toInt32)
          have r14 := rng32 a
          have e15 : (200 : Int32).toInt = 200 := rfl
          have e17 := c_i2l a
          have e18 : (200 : Int64).toInt = 200 := rfl
          have e16 := c_lsub ((a).toInt64) (200 : Int64)
          have r16 := rng64 (((a).toInt64) - (200 : Int64))
          have e19 : (0 : Int64).toInt = 0 := rfl
          have e20 : (201 : Int32).toInt = 201 := rfl
          have e21 : (202 : Int32).toInt = 202 := rfl
          have e22 : (203 : Int32).toInt = 203 := rfl
          have e23 : (204 : Int32).toInt = 204 := rfl
          have e24 : (1 : Int32).toInt = 1 := rfl
          omega
      · refine g_lload cx d0_107 rfl ?_
        refine g_ldcJ cx d0_109 (hw _ (List.mem_of_getElem? (i := 59) rfl)) ?_
        refine g_lif_gt cx d0_112 d0_113 (fun hc113 => ?_) (fun hc113 => ?_)
        · refine g_iconst cx d0_120 (v := (0 : Int32)) rfl ?_
          refine g_istore cx d0_121 (Ls' := #[.val (.int a), .val (.int sel), .val (.int c1), .val (.int c2), .val (.int a), .val (.ref b2), .val (.ref b11), .val (.ref b20), .val (.int (0 : Int32)), .val (.long (((a).toInt64) - (200 : Int64))), .second, .val (.int (0 : Int32))]) rfl ?_
          refine g_iload cx d0_123 rfl ?_
          refine g_iload cx d0_125 rfl ?_
          refine g_static cx (y := (⟨"com/example/egret/egret/service/OutcomeDeliveredPinLaw", "isSuccessStatus", "(I)Z"⟩ : MethodName)) d0_127 (hw _ (List.mem_of_getElem? (i := 55) rfl)) (hw _ (List.mem_of_getElem? (i := 56) rfl)) (hw _ (List.mem_of_getElem? (i := 57) rfl)) (hw _ (List.mem_of_getElem? (i := 58) rfl)) (by decide) (bytes := method_2_code) (maxL' := 1) (M := (ra8 l Z a0 hw a _  OL cs SCS ncs)) rfl (lenOf pd_8 rfl) (by decide) (W := 1) (Nat.le_of_eq rfl) (by decide) (k' := 7) (n' := 15) rfl rfl (by decide) (by decide) (argsL := [(.int a)]) (rest := [(.int (0 : Int32))]) rfl (fun v124 h123 q125 => ?_)
          rcases q125 with ⟨hq97, rfl, rfl⟩ | ⟨hq99, hq100, rfl, rfl⟩ | ⟨hq102, hq103, hq104, rfl, rfl⟩ | ⟨hq106, hq107, hq108, hq109, rfl, rfl⟩ | ⟨hq111, hq112, hq113, hq114, hq115, rfl, rfl⟩ | ⟨hq117, hq118, hq119, hq120, hq121, rfl, rfl⟩
          · refine G.cast (st' := [(.int (1 : Int32)), (.int (0 : Int32))]) ?_ rfl
            refine g_icmp_ne cx d0_130 (fun hc130 => ?_) (fun q => absurd q (fun q => by revert q; decide))
            refine g_iconst cx d0_144 (v := (0 : Int32)) rfl ?_
            refine g_retZ cx d0_145 rfl rfl (by decide) (by decide) ?_
            exfalso
            have i_hc3 : ((sel &&& (1 : Int32))).toInt = ((0 : Int32)).toInt := congrArg Int32.toInt hc3
            have i_hq33 : ¬ (cs).toInt = ((0 : Int32)).toInt := fun z => hq33 (Int32.toInt_inj.mp z)
            have i_hq34 : ¬ ((255 : Int32)).toInt < ((nar .char (((c1 &&& (255 : Int32))).toUInt32.toUInt16.toUInt32.toInt32))).toInt := fun z => hq34 (Int32.lt_iff_toInt_lt.mpr z)
            have i_hq47 : ¬ (cs).toInt = ((0 : Int32)).toInt := fun z => hq47 (Int32.toInt_inj.mp z)
            have i_hq48 : ¬ ((255 : Int32)).toInt < ((nar .char (((c2 &&& (255 : Int32))).toUInt32.toUInt16.toUInt32.toInt32))).toInt := fun z => hq48 (Int32.lt_iff_toInt_lt.mpr z)
            have i_hq57 : (a).toInt < ((200 : Int32)).toInt := Int32.lt_iff_toInt_lt.mp hq57
            have i_hc104 : ¬ ((((a).toInt64) - (200 : Int64))).toInt < ((0 : Int64)).toInt := fun z => hc104 (Int64.lt_iff_toInt_lt.mpr z)
            have i_hc113 : ((4 : Int64)).toInt < ((((a).toInt64) - (200 : Int64))).toInt := Int64.lt_iff_toInt_lt.mp hc113
            have i_hq97 : (a).toInt = ((200 : Int32)).toInt := congrArg Int32.toInt hq97
            have i_hc130 : ¬ ((0 : Int32)).toInt = ((1 : Int32)).toInt := fun z => hc130 (Int32.toInt_inj.mp z)
            have r2 := rng32 sel
            have e1 : ((sel &&& (1 : Int32))).toInt = (sel).toInt % 2 := c_mask sel (1 : Int32) 1 (by decide) (by decide)
            have e3 : (0 : Int32).toInt = 0 := rfl
            have r4 := rng32 cs
            have e5 : (255 : Int32).toInt = 255 := rfl
            have r9 := rng32 c1
            have e8 : ((c1 &&& (255 : Int32))).toInt = (c1).toInt % 256 := c_mask c1 (255 : Int32) 8 (by decide) (by decide)
            have e7 := c_i2c (c1 &&& (255 : Int32))
            have e6 : (((nar .char (((c1 &&& (255 : Int32))).toUInt32.toUInt16.toUInt32.toInt32))).toInt - ((((c1 &&& (255 : Int32))).toUInt32.toUInt16.toUInt32.toInt32)).toInt) % 65536 = 0 ∧ 0 ≤ ((nar .char (((c1 &&& (255 : Int32))).toUInt32.toUInt16.toUInt32.toInt32))).toInt ∧ ((nar .char (((c1 &&& (255 : Int32))).toUInt32.toUInt16.toUInt32.toInt32))).toInt < 65536 := c_i2c (((c1 &&& (255 : Int32))).toUInt32.toUInt16.toUInt32.toInt32)
            have r13 := rng32 c2
            have e12 : ((c2 &&& (255 : Int32))).toInt = (c2).toInt % 256 := c_mask c2 (255 : Int32) 8 (by decide) (by decide)
            have e11 := c_i2c (c2 &&& (255 : Int32))
            have e10 : (((nar .char (((c2 &&& (255 : Int32))).toUInt32.toUInt16.toUInt32.toInt32))).toInt - ((((c2 &&& (255 : Int32))).toUInt32.toUInt16.toUInt32.toInt32)).toInt) % 65536 = 0 ∧ 0 ≤ ((nar .char (((c2 &&& (255 : Int32))).toUInt32.toUInt16.toUInt32.toInt32))).toInt ∧ ((nar .char (((c2 &&& (255 : Int32))).toUInt32.toUInt16.toUInt32.toInt32))).toInt < 65536 := c_i2c (((c2 &&& (255 : Int32))).toUInt32.toUInt16.toUInt32.toInt32)
            have r14 := rng32 a
            have e15 : (200 : Int32).toInt = 200 := rfl
            have e17 := c_i2l a
            have e18 : (200 : Int64).toInt = 200 := rfl
            have e16 := c_lsub ((a).toInt64) (200 : Int64)
            have r16 := rng64 (((a).toInt64) - (200 : Int64))
            have e19 : (0 : Int64).toInt = 0 := rfl
            have e20 : (4 : Int64).toInt = 4 := rfl
            have e21 : (1 : Int32).toInt = 1 := rfl
            omega
          · refine G.cast (st' := [(.int (1 : Int32)), (.int (0 : Int32))]) ?_ rfl
            refine g_icmp_ne cx d0_130 (fun hc130 => ?_) (fun q => absurd q (fun q => by revert q; decide))
            refine g_iconst cx d0_144 (v := (0 : Int32)) rfl ?_
            refine g_retZ cx d0_145 rfl rfl (by decide) (by decide) ?_
            exfalso
            have i_hc3 : ((sel &&& (1 : Int32))).toInt = ((0 : Int32)).toInt := congrArg Int32.toInt hc3
            have i_hq33 : ¬ (cs).toInt = ((0 : Int32)).toInt := fun z => hq33 (Int32.toInt_inj.mp z)
            have i_hq34 : ¬ ((255 : Int32)).toInt < ((nar .char (((c1 &&& (255 : Int32))).toUInt32.toUInt16.toUInt32.toInt32))).toInt := fun z => hq34 (Int32.lt_iff_toInt_lt.mpr z)
            have i_hq47 : ¬ (cs).toInt = ((0 : Int32)).toInt := fun z => hq47 (Int32.toInt_inj.mp z)
            have i_hq48 : ¬ ((255 : Int32)).toInt < ((nar .char (((c2 &&& (255 : Int32))).toUInt32.toUInt16.toUInt32.toInt32))).toInt := fun z => hq48 (Int32.lt_iff_toInt_lt.mpr z)
            have i_hq57 : (a).toInt < ((200 : Int32)).toInt := Int32.lt_iff_toInt_lt.mp hq57
            have i_hc104 : ¬ ((((a).toInt64) - (200 : Int64))).toInt < ((0 : Int64)).toInt := fun z => hc104 (Int64.lt_iff_toInt_lt.mpr z)
            have i_hc113 : ((4 : Int64)).toInt < ((((a).toInt64) - (200 : Int64))).toInt := Int64.lt_iff_toInt_lt.mp hc113
            have i_hq99 : ¬ (a).toInt = ((200 : Int32)).toInt := fun z => hq99 (Int32.toInt_inj.mp z)
            have i_hq100 : (a).toInt = ((201 : Int32)).toInt := congrArg Int32.toInt hq100
            have i_hc130 : ¬ ((0 : Int32)).toInt = ((1 : Int32)).toInt := fun z => hc130 (Int32.toInt_inj.mp z)
            have r2 := rng32 sel
            have e1 : ((sel &&& (1 : Int32))).toInt = (sel).toInt % 2 := c_mask sel (1 : Int32) 1 (by decide) (by decide)
            have e3 : (0 : Int32).toInt = 0 := rfl
            have r4 := rng32 cs
            have e5 : (255 : Int32).toInt = 255 := rfl
            have r9 := rng32 c1
            have e8 : ((c1 &&& (255 : Int32))).toInt = (c1).toInt % 256 := c_mask c1 (255 : Int32) 8 (by decide) (by decide)
            have e7 := c_i2c (c1 &&& (255 : Int32))
            have e6 : (((nar .char (((c1 &&& (255 : Int32))).toUInt32.toUInt16.toUInt32.toInt32))).toInt - ((((c1 &&& (255 : Int32))).toUInt32.toUInt16.toUInt32.toInt32)).toInt) % 65536 = 0 ∧ 0 ≤ ((nar .char (((c1 &&& (255 : Int32))).toUInt32.toUInt16.toUInt32.toInt32))).toInt ∧ ((nar .char (((c1 &&& (255 : Int32))).toUInt32.toUInt16.toUInt32.toInt32))).toInt < 65536 := c_i2c (((c1 &&& (255 : Int32))).toUInt32.toUInt16.toUInt32.toInt32)
            have r13 := rng32 c2
            have e12 : ((c2 &&& (255 : Int32))).toInt = (c2).toInt % 256 := c_mask c2 (255 : Int32) 8 (by decide) (by decide)
            have e11 := c_i2c (c2 &&& (255 : Int32))
            have e10 : (((nar .char (((c2 &&& (255 : Int32))).toUInt32.toUInt16.toUInt32.toInt32))).toInt - ((((c2 &&& (255 : Int32))).toUInt32.toUInt16.toUInt32.toInt32)).toInt) % 65536 = 0 ∧ 0 ≤ ((nar .char (((c2 &&& (255 : Int32))).toUInt32.toUInt16.toUInt32.toInt32))).toInt ∧ ((nar .char (((c2 &&& (255 : Int32))).toUInt32.toUInt16.toUInt32.toInt32))).toInt < 65536 := c_i2c (((c2 &&& (255 : Int32))).toUInt32.toUInt16.toUInt32.toInt32)
            have r14 := rng32 a
            have e15 : (200 : Int32).toInt = 200 := rfl
            have e17 := c_i2l a
            have e18 : (200 : Int64).toInt = 200 := rfl
            have e16 := c_lsub ((a).toInt64) (200 : Int64)
            have r16 := rng64 (((a).toInt64) - (200 : Int64))
            have e19 : (0 : Int64).toInt = 0 := rfl
            have e20 : (4 : Int64).toInt = 4 := rfl
            have e21 : (201 : Int32).toInt = 201 := rfl
            have e22 : (1 : Int32).toInt = 1 := rfl
            omega
          · refine G.cast (st' := [(.int (1 : Int32)), (.int (0 : Int32))]) ?_ rfl
            refine g_icmp_ne cx d0_130 (fun hc130 => ?_) (fun q => absurd q (fun q => by revert q; decide))
            refine g_iconst cx d0_144 (v := (0 : Int32)) rfl ?_
            refine g_retZ cx d0_145 rfl rfl (by decide) (by decide) ?_
            exfalso
            have i_hc3 : ((sel &&& (1 : Int32))).toInt = ((0 : Int32)).toInt := congrArg Int32.toInt hc3
            have i_hq33 : ¬ (cs).toInt = ((0 : Int32)).toInt := fun z => hq33 (Int32.toInt_inj.mp z)
            have i_hq34 : ¬ ((255 : Int32)).toInt < ((nar .char (((c1 &&& (255 : Int32))).toUInt32.toUInt16.toUInt32.toInt32))).toInt := fun z => hq34 (Int32.lt_iff_toInt_lt.mpr z)
            have i_hq47 : ¬ (cs).toInt = ((0 : Int32)).toInt := fun z => hq47 (Int32.toInt_inj.mp z)
            have i_hq48 : ¬ ((255 : Int32)).toInt < ((nar .char (((c2 &&& (255 : Int32))).toUInt32.toUInt16.toUInt32.toInt32))).toInt := fun z => hq48 (Int32.lt_iff_toInt_lt.mpr z)
            have i_hq57 : (a).toInt < ((200 : Int32)).toInt := Int32.lt_iff_toInt_lt.mp hq57
            have i_hc104 : ¬ ((((a).toInt64) - (200 : Int64))).toInt < ((0 : Int64)).toInt := fun z => hc104 (Int64.lt_iff_toInt_lt.mpr z)
            have i_hc113 : ((4 : Int64)).toInt < ((((a).toInt64) - (200 : Int64))).toInt := Int64.lt_iff_toInt_lt.mp hc113
            have i_hq102 : ¬ (a).toInt = ((200 : Int32)).toInt := fun z => hq102 (Int32.toInt_inj.mp z)
            have i_hq103 : ¬ (a).toInt = ((201 : Int32)).toInt := fun z => hq103 (Int32.toInt_inj.mp z)
            have i_hq104 : (a).toInt = ((202 : Int32)).toInt := congrArg Int32.toInt hq104
            have i_hc130 : ¬ ((0 : Int32)).toInt = ((1 : Int32)).toInt := fun z => hc130 (Int32.toInt_inj.mp z)
            have r2 := rng32 sel
            have e1 : ((sel &&& (1 : Int32))).toInt = (sel).toInt % 2 := c_mask sel (1 : Int32) 1 (by decide) (by decide)
            have e3 : (0 : Int32).toInt = 0 := rfl
            have r4 := rng32 cs
            have e5 : (255 : Int32).toInt = 255 := rfl
            have r9 := rng32 c1
            have e8 : ((c1 &&& (255 : Int32))).toInt = (c1).toInt % 256 := c_mask c1 (255 : Int32) 8 (by decide) (by decide)
            have e7 := c_i2c (c1 &&& (255 : Int32))
            have e6 : (((nar .char (((c1 &&& (255 : Int32))).toUInt32.toUInt16.toUInt32.toInt32))).toInt - ((((c1 &&& (255 : Int32))).toUInt32.toUInt16.toUInt32.toInt32)).toInt) % 65536 = 0 ∧ 0 ≤ ((nar .char (((c1 &&& (255 : Int32))).toUInt32.toUInt16.toUInt32.toInt32))).toInt ∧ ((nar .char (((c1 &&& (255 : Int32))).toUInt32.toUInt16.toUInt32.toInt32))).toInt < 65536 := c_i2c (((c1 &&& (255 : Int32))).toUInt32.toUInt16.toUInt32.toInt32)
            have r13 := rng32 c2
            have e12 : ((c2 &&& (255 : Int32))).toInt = (c2).toInt % 256 := c_mask c2 (255 : Int32) 8 (by decide) (by decide)
            have e11 := c_i2c (c2 &&& (255 : Int32))
            have e10 : (((nar .char (((c2 &&& (255 : Int32))).toUInt32.toUInt16.toUInt32.toInt32))).toInt - ((((c2 &&& (255 : Int32))).toUInt32.toUInt16.toUInt32.toInt32)).toInt) % 65536 = 0 ∧ 0 ≤ ((nar .char (((c2 &&& (255 : Int32))).toUInt32.toUInt16.toUInt32.toInt32))).toInt ∧ ((nar .char (((c2 &&& (255 : Int32))).toUInt32.toUInt16.toUInt32.toInt32))).toInt < 65536 := c_i2c (((c2 &&& (255 : Int32))).toUInt32.toUInt16.toUInt32.toInt32)
            have r14 := rng32 a
            have e15 : (200 : Int32).toInt = 200 := rfl
            have e17 := c_i2l a
            have e18 : (200 : Int64).toInt = 200 := rfl
            have e16 := c_lsub ((a).toInt64) (200 : Int64)
            have r16 := rng64 (((a).toInt64) - (200 : Int64))
            have e19 : (0 : Int64).toInt = 0 := rfl
            have e20 : (4 : Int64).toInt = 4 := rfl
            have e21 : (201 : Int32).toInt = 201 := rfl
            have e22 : (202 : Int32).toInt = 202 := rfl
            have e23 : (1 : Int32).toInt = 1 := rfl
            omega
          · refine G.cast (st' := [(.int (1 : Int32)), (.int (0 : Int32))]) ?_ rfl
            refine g_icmp_ne cx d0_130 (fun hc130 => ?_) (fun q => absurd q (fun q => by revert q; decide))
            refine g_iconst cx d0_144 (v := (0 : Int32)) rfl ?_
            refine g_retZ cx d0_145 rfl rfl (by decide) (by decide) ?_
            exfalso
            have i_hc3 : ((sel &&& (1 : Int32))).toInt = ((0 : Int32)).toInt := congrArg Int32.toInt hc3
            have i_hq33 : ¬ (cs).toInt = ((0 : Int32)).toInt := fun z => hq33 (Int32.toInt_inj.mp z)
            have i_hq34 : ¬ ((255 : Int32)).toInt < ((nar .char (((c1 &&& (255 : Int32))).toUInt32.toUInt16.toUInt32.toInt32))).toInt := fun z => hq34 (Int32.lt_iff_toInt_lt.mpr z)
            have i_hq47 : ¬ (cs).toInt = ((0 : Int32)).toInt := fun z => hq47 (Int32.toInt_inj.mp z)
            have i_hq48 : ¬ ((255 : Int32)).toInt < ((nar .char (((c2 &&& (255 : Int32))).toUInt32.toUInt16.toUInt32.toInt32))).toInt := fun z => hq48 (Int32.lt_iff_toInt_lt.mpr z)
            have i_hq57 : (a).toInt < ((200 : Int32)).toInt := Int32.lt_iff_toInt_lt.mp hq57
            have i_hc104 : ¬ ((((a).toInt64) - (200 : Int64))).toInt < ((0 : Int64)).toInt := fun z => hc104 (Int64.lt_iff_toInt_lt.mpr z)
            have i_hc113 : ((4 : Int64)).toInt < ((((a).toInt64) - (200 : Int64))).toInt := Int64.lt_iff_toInt_lt.mp hc113
            have i_hq106 : ¬ (a).toInt = ((200 : Int32)).toInt := fun z => hq106 (Int32.toInt_inj.mp z)
            have i_hq107 : ¬ (a).toInt = ((201 : Int32)).toInt := fun z => hq107 (Int32.toInt_inj.mp z)
            have i_hq108 : ¬ (a).toInt = ((202 : Int32)).toInt := fun z => hq108 (Int32.toInt_inj.mp z)
            have i_hq109 : (a).toInt = ((203 : Int32)).toInt := congrArg Int32.toInt hq109
            have i_hc130 : ¬ ((0 : Int32)).toInt = ((1 : Int32)).toInt := fun z => hc130 (Int32.toInt_inj.mp z)
            have r2 := rng32 sel
            have e1 : ((sel &&& (1 : Int32))).toInt = (sel).toInt % 2 := c_mask sel (1 : Int32) 1 (by decide) (by decide)
            have e3 : (0 : Int32).toInt = 0 := rfl
            have r4 := rng32 cs
            have e5 : (255 : Int32).toInt = 255 := rfl
            have r9 := rng32 c1
            have e8 : ((c1 &&& (255 : Int32))).toInt = (c1).toInt % 256 := c_mask c1 (255 : Int32) 8 (by decide) (by decide)
            have e7 := c_i2c (c1 &&& (255 : Int32))
            have e6 : (((nar .char (((c1 &&& (255 : Int32))).toUInt32.toUInt16.toUInt32.toInt32))).toInt - ((((c1 &&& (255 : Int32))).toUInt32.toUInt16.toUInt32.toInt32)).toInt) % 65536 = 0 ∧ 0 ≤ ((nar .char (((c1 &&& (255 : Int32))).toUInt32.toUInt16.toUInt32.toInt32))).toInt ∧ ((nar .char (((c1 &&& (255 : Int32))).toUInt32.toUInt16.toUInt32.toInt32))).toInt < 65536 := c_i2c (((c1 &&& (255 : Int32))).toUInt32.toUInt16.toUInt32.toInt32)
            have r13 := rng32 c2
            have e12 : ((c2 &&& (255 : Int32))).toInt = (c2).toInt % 256 := c_mask c2 (255 : Int32) 8 (by decide) (by decide)
            have e11 := c_i2c (c2 &&& (255 : Int32))
            have e10 : (((nar .char (((c2 &&& (255 : Int32))).toUInt32.toUInt16.toUInt32.toInt32))).toInt - ((((c2 &&& (255 : Int32))).toUInt32.toUInt16.toUInt32.toInt32)).toInt) % 65536 = 0 ∧ 0 ≤ ((nar .char (((c2 &&& (255 : Int32))).toUInt32.toUInt16.toUInt32.toInt32))).toInt ∧ ((nar .char (((c2 &&& (255 : Int32))).toUInt32.toUInt16.toUInt32.toInt32))).toInt < 65536 := c_i2c (((c2 &&& (255 : Int32))).toUInt32.toUInt16.toUInt32.toInt32)
            have r14 := rng32 a
            have e15 : (200 : Int32).toInt = 200 := rfl
            have e17 := c_i2l a
            have e18 : (200 : Int64).toInt = 200 := rfl
            have e16 := c_lsub ((a).toInt64) (200 : Int64)
            have r16 := rng64 (((a).toInt64) - (200 : Int64))
            have e19 : (0 : Int64).toInt = 0 := rfl
            have e20 : (4 : Int64).toInt = 4 := rfl
            have e21 : (201 : Int32).toInt = 201 := rfl
            have e22 : (202 : Int32).toInt = 202 := rfl
            have e23 : (203 : Int32).toInt = 203 := rfl
            have e24 : (1 : Int32).toInt = 1 := rfl
            omega
          · refine G.cast (st' := [(.int (0 : Int32)), (.int (0 : Int32))]) ?_ rfl
            refine g_icmp_ne cx d0_130 (fun q => absurd q (fun q => by revert q; decide)) (fun hc130 => ?_)
            refine g_iload cx d0_133 rfl ?_
            refine g_iload cx d0_135 rfl ?_
            refine g_icmp_ne cx d0_137 (fun q => absurd q (fun q => by revert q; decide)) (fun hc137 => ?_)
            refine g_iconst cx d0_140 (v := (1 : Int32)) rfl ?_
            refine g_goto cx d0_141 ?_
            refine g_retZ cx d0_145 rfl rfl (by decide) (by decide) ?_
            rfl
          · refine G.cast (st' := [(.int (1 : Int32)), (.int (0 : Int32))]) ?_ rfl
            refine g_icmp_ne cx d0_130 (fun hc130 => ?_) (fun q => absurd q (fun q => by revert q; decide))
            refine g_iconst cx d0_144 (v := (0 : Int32)) rfl ?_
            refine g_retZ cx d0_145 rfl rfl (by decide) (by decide) ?_
            exfalso
            have i_hc3 : ((sel &&& (1 : Int32))).toInt = ((0 : Int32)).toInt := congrArg Int32.toInt hc3
            have i_hq33 : ¬ (cs).toInt = ((0 : Int32)).toInt := fun z => hq33 (Int32.toInt_inj.mp z)
            have i_hq34 : ¬ ((255 : Int32)).toInt < ((nar .char (((c1 &&& (255 : Int32))).toUInt32.toUInt16.toUInt32.toInt32))).toInt := fun z => hq34 (Int32.lt_iff_toInt_lt.mpr z)
            have i_hq47 : ¬ (cs).toInt = ((0 : Int32)).toInt := fun z => hq47 (Int32.toInt_inj.mp z)
            have i_hq48 : ¬ ((255 : Int32)).toInt < ((nar .char (((c2 &&& (255 : Int32))).toUInt32.toUInt16.toUInt32.toInt32))).toInt := fun z => hq48 (Int32.lt_iff_toInt_lt.mpr z)
            have i_hq57 : (a).toInt < ((200 : Int32)).toInt := Int32.lt_iff_toInt_lt.mp hq57
            have i_hc104 : ¬ ((((a).toInt64) - (200 : Int64))).toInt < ((0 : Int64)).toInt := fun z => hc104 (Int64.lt_iff_toInt_lt.mpr z)
            have i_hc113 : ((4 : Int64)).toInt < ((((a).toInt64) - (200 : Int64))).toInt := Int64.lt_iff_toInt_lt.mp hc113
            have i_hq117 : ¬ (a).toInt = ((200 : Int32)).toInt := fun z => hq117 (Int32.toInt_inj.mp z)
            have i_hq118 : ¬ (a).toInt = ((201 : Int32)).toInt := fun z => hq118 (Int32.toInt_inj.mp z)
            have i_hq119 : ¬ (a).toInt = ((202 : Int32)).toInt := fun z => hq119 (Int32.toInt_inj.mp z)
            have i_hq120 : ¬ (a).toInt = ((203 : Int32)).toInt := fun z => hq120 (Int32.toInt_inj.mp z)
            have i_hq121 : (a).toInt = ((204 : Int32)).toInt := congrArg Int32.toInt hq121
            have i_hc130 : ¬ ((0 : Int32)).toInt = ((1 : Int32)).toInt := fun z => hc130 (Int32.toInt_inj.mp z)
            have r2 := rng32 sel
            have e1 : ((sel &&& (1 : Int32))).toInt = (sel).toInt % 2 := c_mask sel (1 : Int32) 1 (by decide) (by decide)
            have e3 : (0 : Int32).toInt = 0 := rfl
            have r4 := rng32 cs
            have e5 : (255 : Int32).toInt = 255 := rfl
            have r9 := rng32 c1
            have e8 : ((c1 &&& (255 : Int32))).toInt = (c1).toInt % 256 := c_mask c1 (255 : Int32) 8 (by decide) (by decide)
            have e7 := c_i2c (c1 &&& (255 : Int32))
            have e6 : (((nar .char (((c1 &&& (255 : Int32))).toUInt32.toUInt16.toUInt32.toInt32))).toInt - ((((c1 &&& (255 : Int32))).toUInt32.toUInt16.toUInt32.toInt32)).toInt) % 65536 = 0 ∧ 0 ≤ ((nar .char (((c1 &&& (255 : Int32))).toUInt32.toUInt16.toUInt32.toInt32))).toInt ∧ ((nar .char (((c1 &&& (255 : Int32))).toUInt32.toUInt16.toUInt32.toInt32))).toInt < 65536 := c_i2c (((c1 &&& (255 : Int32))).toUInt32.toUInt16.toUInt32.toInt32)
            have r13 := rng32 c2
            have e12 : ((c2 &&& (255 : Int32))).toInt = (c2).toInt % 256 := c_mask c2 (255 : Int32) 8 (by decide) (by decide)
            have e11 := c_i2c (c2 &&& (255 : Int32))
            have e10 : (((nar .char (((c2 &&& (255 : Int32))).toUInt32.toUInt16.toUInt32.toInt32))).toInt - ((((c2 &&& (255 : Int32))).toUInt32.toUInt16.toUInt32.toInt32)).toInt) % 65536 = 0 ∧ 0 ≤ ((nar .char (((c2 &&& (255 : Int32))).toUInt32.toUInt16.toUInt32.toInt32))).toInt ∧ ((nar .char (((c2 &&& (255 : Int32))).toUInt32.toUInt16.toUInt32.toInt32))).toInt < 65536 := c_i2c (((c2 &&& (255 : Int32))).toUInt32.toUInt16.toUInt32.toInt32)
            have r14 := rng32 a
            have e15 : (200 : Int32).toInt = 200 := rfl
            have e17 := c_i2l a
            have e18 : (200 : Int64).toInt = 200 := rfl
            have e16 := c_lsub ((a).toInt64) (200 : Int64)
            have r16 := rng64 (((a).toInt64) - (200 : Int64))
            have e19 : (0 : Int64).toInt = 0 := rfl
            have e20 : (4 : Int64).toInt = 4 := rfl
            have e21 : (201 : Int32).toInt = 201 := rfl
            have e22 : (202 : Int32).toInt = 202 := rfl
            have e23 : (203 : Int32).toInt = 203 := rfl
            have e24 : (204 : Int32).toInt = 204 := rfl
            have e25 : (1 : Int32).toInt = 1 := rfl
            omega
        · refine g_iconst cx d0_116 (v := (1 : Int32)) rfl ?_
          refine g_goto cx d0_117 ?_
          refine g_istore cx d0_121 (Ls' := #[.val (.int a), .val (.int sel), .val (.int c1), .val (.int c2), .val (.int a), .val (.ref b2), .val (.ref b11), .val (.ref b20), .val (.int (0 : Int32)), .val (.long (((a).toInt64) - (200 : Int64))), .second, .val (.int (1 : Int32))]) rfl ?_
          refine g_iload cx d0_123 rfl ?_
          refine g_iload cx d0_125 rfl ?_
          refine g_static cx (y := (⟨"com/example/egret/egret/service/OutcomeDeliveredPinLaw", "isSuccessStatus", "(I)Z"⟩ : MethodName)) d0_127 (hw _ (List.mem_of_getElem? (i := 55) rfl)) (hw _ (List.mem_of_getElem? (i := 56) rfl)) (hw _ (List.mem_of_getElem? (i := 57) rfl)) (hw _ (List.mem_of_getElem? (i := 58) rfl)) (by decide) (bytes := method_2_code) (maxL' := 1) (M := (ra8 l Z a0 hw a _  OL cs SCS ncs)) rfl (lenOf pd_8 rfl) (by decide) (W := 1) (Nat.le_of_eq rfl) (by decide) (k' := 7) (n' := 15) rfl rfl (by decide) (by decide) (argsL := [(.int a)]) (rest := [(.int (0 : Int32))]) rfl (fun v153 h152 q154 => ?_)
          rcases q154 with ⟨hq126, rfl, rfl⟩ | ⟨hq128, hq129, rfl, rfl⟩ | ⟨hq131, hq132, hq133, rfl, rfl⟩ | ⟨hq135, hq136, hq137, hq138, rfl, rfl⟩ | ⟨hq140, hq141, hq142, hq143, hq144, rfl, rfl⟩ | ⟨hq146, hq147, hq148, hq149, hq150, rfl, rfl⟩
          · refine G.cast (st' := [(.int (1 : Int32)), (.int (0 : Int32))]) ?_ rfl
            refine g_icmp_ne cx d0_130 (fun hc130 => ?_) (fun q => absurd q (fun q => by revert q; decide))
            refine g_iconst cx d0_144 (v := (0 : Int32)) rfl ?_
            refine g_retZ cx d0_145 rfl rfl (by decide) (by decide) ?_
            exfalso
            have i_hc3 : ((sel &&& (1 : Int32))).toInt = ((0 : Int32)).toInt := congrArg Int32.toInt hc3
            have i_hq33 : ¬ (cs).toInt = ((0 : Int32)).toInt := fun z => hq33 (Int32.toInt_inj.mp z)
            have i_hq34 : ¬ ((255 : Int32)).toInt < ((nar .char (((c1 &&& (255 : Int32))).toUInt32.toUInt16.toUInt32.toInt32))).toInt := fun z => hq34 (Int32.lt_iff_toInt_lt.mpr z)
            have i_hq47 : ¬ (cs).toInt = ((0 : Int32)).toInt := fun z => hq47 (Int32.toInt_inj.mp z)
            have i_hq48 : ¬ ((255 : Int32)).toInt < ((nar .char (((c2 &&& (255 : Int32))).toUInt32.toUInt16.toUInt32.toInt32))).toInt := fun z => hq48 (Int32.lt_iff_toInt_lt.mpr z)
            have i_hq57 : (a).toInt < ((200 : Int32)).toInt := Int32.lt_iff_toInt_lt.mp hq57
            have i_hc104 : ¬ ((((a).toInt64) - (200 : Int64))).toInt < ((0 : Int64)).toInt := fun z => hc104 (Int64.lt_iff_toInt_lt.mpr z)
            have i_hc113 : ¬ ((4 : Int64)).toInt < ((((a).toInt64) - (200 : Int64))).toInt := fun z => hc113 (Int64.lt_iff_toInt_lt.mpr z)
            have i_hq126 : (a).toInt = ((200 : Int32)).toInt := congrArg Int32.toInt hq126
            have i_hc130 : ¬ ((0 : Int32)).toInt = ((1 : Int32)).toInt := fun z => hc130 (Int32.toInt_inj.mp z)
            have r2 := rng32 sel
            have e1 : ((sel &&& (1 : Int32))).toInt = (sel).toInt % 2 := c_mask sel (1 : Int32) 1 (by decide) (by decide)
            have e3 : (0 : Int32).toInt = 0 := rfl
            have r4 := rng32 cs
            have e5 : (255 : Int32).toInt = 255 := rfl
            have r9 := rng32 c1
            have e8 : ((c1 &&& (255 : Int32))).toInt = (c1).toInt % 256 := c_mask c1 (255 : Int32) 8 (by decide) (by decide)
            have e7 := c_i2c (c1 &&& (255 : Int32))
            have e6 : (((nar .char (((c1 &&& (255 : Int32))).toUInt32.toUInt16.toUInt32.toInt32))).toInt - ((((c1 &&& (255 : Int32))).toUInt32.toUInt16.toUInt32.toInt32)).toInt) % 65536 = 0 ∧ 0 ≤ ((nar .char (((c1 &&& (255 : Int32))).toUInt32.toUInt16.toUInt32.toInt32))).toInt ∧ ((nar .char (((c1 &&& (255 : Int32))).toUInt32.toUInt16.toUInt32.toInt32))).toInt < 65536 := c_i2c (((c1 &&& (255 : Int32))).toUInt32.toUInt16.toUInt32.toInt32)
            have r13 := rng32 c2
            have e12 : ((c2 &&& (255 : Int32))).toInt = (c2).toInt % 256 := c_mask c2 (255 : Int32) 8 (by decide) (by decide)
            have e11 := c_i2c (c2 &&& (255 : Int32))
            have e10 : (((nar .char (((c2 &&& (255 : Int32))).toUInt32.toUInt16.toUInt32.toInt32))).toInt - ((((c2 &&& (255 : Int32))).toUInt32.toUInt16.toUInt32.toInt32)).toInt) % 65536 = 0 ∧ 0 ≤ ((nar .char (((c2 &&& (255 : Int32))).toUInt32.toUInt16.toUInt32.toInt32))).toInt ∧ ((nar .char (((c2 &&& (255 : Int32))).toUInt32.toUInt16.toUInt32.toInt32))).toInt < 65536 := c_i2c (((c2 &&& (255 : Int32))).toUInt32.toUInt16.toUInt32.toInt32)
            have r14 := rng32 a
            have e15 : (200 : Int32).toInt = 200 := rfl
            have e17 := c_i2l a
            have e18 : (200 : Int64).toInt = 200 := rfl
            have e16 := c_lsub ((a).toInt64) (200 : Int64)
            have r16 := rng64 (((a).toInt64) - (200 : Int64))
            have e19 : (0 : Int64).toInt = 0 := rfl
            have e20 : (4 : Int64).toInt = 4 := rfl
            have e21 : (1 : Int32).toInt = 1 := rfl
            omega
          · refine G.cast (st' := [(.int (1 : Int32)), (.int (0 : Int32))]) ?_ rfl
            refine g_icmp_ne cx d0_130 (fun hc130 => ?_) (fun q => absurd q (fun q => by revert q; decide))
            refine g_iconst cx d0_144 (v := (0 : Int32)) rfl ?_
            refine g_retZ cx d0_145 rfl rfl (by decide) (by decide) ?_
            exfalso
            have i_hc3 : ((sel &&& (1 : Int32))).toInt = ((0 : Int32)).toInt := congrArg Int32.toInt hc3
            have i_hq33 : ¬ (cs).toInt = ((0 : Int32)).toInt := fun z => hq33 (Int32.toInt_inj.mp z)
            have i_hq34 : ¬ ((255 : Int32)).toInt < ((nar .char (((c1 &&& (255 : Int32))).toUInt32.toUInt16.toUInt32.toInt32))).toInt := fun z => hq34 (Int32.lt_iff_toInt_lt.mpr z)
            have i_hq47 : ¬ (cs).toInt = ((0 : Int32)).toInt := fun z => hq47 (Int32.toInt_inj.mp z)
            have i_hq48 : ¬ ((255 : Int32)).toInt < ((nar .char (((c2 &&& (255 : Int32))).toUInt32.toUInt16.toUInt32.toInt32))).toInt := fun z => hq48 (Int32.lt_iff_toInt_lt.mpr z)
            have i_hq57 : (a).toInt < ((200 : Int32)).toInt := Int32.lt_iff_toInt_lt.mp hq57
            have i_hc104 : ¬ ((((a).toInt64) - (200 : Int64))).toInt < ((0 : Int64)).toInt := fun z => hc104 (Int64.lt_iff_toInt_lt.mpr z)
            have i_hc113 : ¬ ((4 : Int64)).toInt < ((((a).toInt64) - (200 : Int64))).toInt := fun z => hc113 (Int64.lt_iff_toInt_lt.mpr z)
            have i_hq128 : ¬ (a).toInt = ((200 : Int32)).toInt := fun z => hq128 (Int32.toInt_inj.mp z)
            have i_hq129 : (a).toInt = ((201 : Int32)).toInt := congrArg Int32.toInt hq129
            have i_hc130 : ¬ ((0 : Int32)).toInt = ((1 : Int32)).toInt := fun z => hc130 (Int32.toInt_inj.mp z)
            have r2 := rng32 sel
            have e1 : ((sel &&& (1 : Int32))).toInt = (sel).toInt % 2 := c_mask sel (1 : Int32) 1 (by decide) (by decide)
            have e3 : (0 : Int32).toInt = 0 := rfl
            have r4 := rng32 cs
            have e5 : (255 : Int32).toInt = 255 := rfl
            have r9 := rng32 c1
            have e8 : ((c1 &&& (255 : Int32))).toInt = (c1).toInt % 256 := c_mask c1 (255 : Int32) 8 (by decide) (by decide)
            have e7 := c_i2c (c1 &&& (255 : Int32))
            have e6 : (((nar .char (((c1 &&& (255 : Int32))).toUInt32.toUInt16.toUInt32.toInt32))).toInt - ((((c1 &&& (255 : Int32))).toUInt32.toUInt16.toUInt32.toInt32)).toInt) % 65536 = 0 ∧ 0 ≤ ((nar .char (((c1 &&& (255 : Int32))).toUInt32.toUInt16.toUInt32.toInt32))).toInt ∧ ((nar .char (((c1 &&& (255 : Int32))).toUInt32.toUInt16.toUInt32.toInt32))).toInt < 65536 := c_i2c (((c1 &&& (255 : Int32))).toUInt32.toUInt16.toUInt32.toInt32)
            have r13 := rng32 c2
            have e12 : ((c2 &&& (255 : Int32))).toInt = (c2).toInt % 256 := c_mask c2 (255 : Int32) 8 (by decide) (by decide)
            have e11 := c_i2c (c2 &&& (255 : Int32))
            have e10 : (((nar .char (((c2 &&& (255 : Int32))).toUInt32.toUInt16.toUInt32.toInt32))).toInt - ((((c2 &&& (255 : Int32))).toUInt32.toUInt16.toUInt32.toInt32)).toInt) % 65536 = 0 ∧ 0 ≤ ((nar .char (((c2 &&& (255 : Int32))).toUInt32.toUInt16.toUInt32.toInt32))).toInt ∧ ((nar .char (((c2 &&& (255 : Int32))).toUInt32.toUInt16.toUInt32.toInt32))).toInt < 65536 := c_i2c (((c2 &&& (255 : Int32))).toUInt32.toUInt16.toUInt32.toInt32)
            have r14 := rng32 a
            have e15 : (200 : Int32).toInt = 200 := rfl
            have e17 := c_i2l a
            have e18 : (200 : Int64).toInt = 200 := rfl
            have e16 := c_lsub ((a).toInt64) (200 : Int64)
            have r16 := rng64 (((a).toInt64) - (200 : Int64))
            have e19 : (0 : Int64).toInt = 0 := rfl
            have e20 : (4 : Int64).toInt = 4 := rfl
            have e21 : (201 : Int32).toInt = 201 := rfl
            have e22 : (1 : Int32).toInt = 1 := rfl
            omega
          · refine G.cast (st' := [(.int (1 : Int32)), (.int (0 : Int32))]) ?_ rfl
            refine g_icmp_ne cx d0_130 (fun hc130 => ?_) (fun q => absurd q (fun q => by revert q; decide))
            refine g_iconst cx d0_144 (v := (0 : Int32)) rfl ?_
            refine g_retZ cx d0_145 rfl rfl (by decide) (by decide) ?_
            exfalso
            have i_hc3 : ((sel &&& (1 : Int32))).toInt = ((0 : Int32)).toInt := congrArg Int32.toInt hc3
            have i_hq33 : ¬ (cs).toInt = ((0 : Int32)).toInt := fun z => hq33 (Int32.toInt_inj.mp z)
            have i_hq34 : ¬ ((255 : Int32)).toInt < ((nar .char (((c1 &&& (255 : Int32))).toUInt32.toUInt16.toUInt32.toInt32))).toInt := fun z => hq34 (Int32.lt_iff_toInt_lt.mpr z)
            have i_hq47 : ¬ (cs).toInt = ((0 : Int32)).toInt := fun z => hq47 (Int32.toInt_inj.mp z)
            have i_hq48 : ¬ ((255 : Int32)).toInt < ((nar .char (((c2 &&& (255 : Int32))).toUInt32.toUInt16.toUInt32.toInt32))).toInt := fun z => hq48 (Int32.lt_iff_toInt_lt.mpr z)
            have i_hq57 : (a).toInt < ((200 : Int32)).toInt := Int32.lt_iff_toInt_lt.mp hq57
            have i_hc104 : ¬ ((((a).toInt64) - (200 : Int64))).toInt < ((0 : Int64)).toInt := fun z => hc104 (Int64.lt_iff_toInt_lt.mpr z)
            have i_hc113 : ¬ ((4 : Int64)).toInt < ((((a).toInt64) - (200 : Int64))).toInt := fun z => hc113 (Int64.lt_iff_toInt_lt.mpr z)
            have i_hq131 : ¬ (a).toInt = ((200 : Int32)).toInt := fun z => hq131 (Int32.toInt_inj.mp z)
            have i_hq132 : ¬ (a).toInt = ((201 : Int32)).toInt := fun z => hq132 (Int32.toInt_inj.mp z)
            have i_hq133 : (a).toInt = ((202 : Int32)).toInt := congrArg Int32.toInt hq133
            have i_hc130 : ¬ ((0 : Int32)).toInt = ((1 : Int32)).toInt := fun z => hc130 (Int32.toInt_inj.mp z)
            have r2 := rng32 sel
            have e1 : ((sel &&& (1 : Int32))).toInt = (sel).toInt % 2 := c_mask sel (1 : Int32) 1 (by decide) (by decide)
            have e3 : (0 : Int32).toInt = 0 := rfl
            have r4 := rng32 cs
            have e5 : (255 : Int32).toInt = 255 := rfl
            have r9 := rng32 c1
            have e8 : ((c1 &&& (255 : Int32))).toInt = (c1).toInt % 256 := c_mask c1 (255 : Int32) 8 (by decide) (by decide)
            have e7 := c_i2c (c1 &&& (255 : Int32))
            have e6 : (((nar .char (((c1 &&& (255 : Int32))).toUInt32.toUInt16.toUInt32.toInt32))).toInt - ((((c1 &&& (255 : Int32))).toUInt32.toUInt16.toUInt32.toInt32)).toInt) % 65536 = 0 ∧ 0 ≤ ((nar .char (((c1 &&& (255 : Int32))).toUInt32.toUInt16.toUInt32.toInt32))).toInt ∧ ((nar .char (((c1 &&& (255 : Int32))).toUInt32.toUInt16.toUInt32.toInt32))).toInt < 65536 := c_i2c (((c1 &&& (255 : Int32))).toUInt32.toUInt16.toUInt32.toInt32)
            have r13 := rng32 c2
            have e12 : ((c2 &&& (255 : Int32))).toInt = (c2).toInt % 256 := c_mask c2 (255 : Int32) 8 (by decide) (by decide)
            have e11 := c_i2c (c2 &&& (255 : Int32))
            have e10 : (((nar .char (((c2 &&& (255 : Int32))).toUInt32.toUInt16.toUInt32.toInt32))).toInt - ((((c2 &&& (255 : Int32))).toUInt32.toUInt16.toUInt32.toInt32)).toInt) % 65536 = 0 ∧ 0 ≤ ((nar .char (((c2 &&& (255 : Int32))).toUInt32.toUInt16.toUInt32.toInt32))).toInt ∧ ((nar .char (((c2 &&& (255 : Int32))).toUInt32.toUInt16.toUInt32.toInt32))).toInt < 65536 := c_i2c (((c2 &&& (255 : Int32))).toUInt32.toUInt16.toUInt32.toInt32)
            have r14 := rng32 a
            have e15 : (200 : Int32).toInt = 200 := rfl
            have e17 := c_i2l a
            have e18 : (200 : Int64).toInt = 200 := rfl
            have e16 := c_lsub ((a).toInt64) (200 : Int64)
            have r16 := rng64 (((a).toInt64) - (200 : Int64))
            have e19 : (0 : Int64).toInt = 0 := rfl
            have e20 : (4 : Int64).toInt = 4 := rfl
            have e21 : (201 : Int32).toInt = 201 := rfl
            have e22 : (202 : Int32).toInt = 202 := rfl
            have e23 : (1 : Int32).toInt = 1 := rfl
            omega
          · refine G.cast (st' := [(.int (1 : Int32)), (.int (0 : Int32))]) ?_ rfl
            refine g_icmp_ne cx d0_130 (fun hc130 => ?_) (fun q => absurd q (fun q => by revert q; decide))
            refine g_iconst cx d0_144 (v := (0 : Int32)) rfl ?_
            refine g_retZ cx d0_145 rfl rfl (by decide) (by decide) ?_
            exfalso
            have i_hc3 : ((sel &&& (1 : Int32))).toInt = ((0 : Int32)).toInt := congrArg Int32.toInt hc3
            have i_hq33 : ¬ (cs).toInt = ((0 : Int32)).toInt := fun z => hq33 (Int32.toInt_inj.mp z)
            have i_hq34 : ¬ ((255 : Int32)).toInt < ((nar .char (((c1 &&& (255 : Int32))).toUInt32.toUInt16.toUInt32.toInt32))).toInt := fun z => hq34 (Int32.lt_iff_toInt_lt.mpr z)
            have i_hq47 : ¬ (cs).toInt = ((0 : Int32)).toInt := fun z => hq47 (Int32.toInt_inj.mp z)
            have i_hq48 : ¬ ((255 : Int32)).toInt < ((nar .char (((c2 &&& (255 : Int32))).toUInt32.toUInt16.toUInt32.toInt32))).toInt := fun z => hq48 (Int32.lt_iff_toInt_lt.mpr z)
            have i_hq57 : (a).toInt < ((200 : Int32)).toInt := Int32.lt_iff_toInt_lt.mp hq57
            have i_hc104 : ¬ ((((a).toInt64) - (200 : Int64))).toInt < ((0 : Int64)).toInt := fun z => hc104 (Int64.lt_iff_toInt_lt.mpr z)
            have i_hc113 : ¬ ((4 : Int64)).toInt < ((((a).toInt64) - (200 : Int64))).toInt := fun z => hc113 (Int64.lt_iff_toInt_lt.mpr z)
            have i_hq135 : ¬ (a).toInt = ((200 : Int32)).toInt := fun z => hq135 (Int32.toInt_inj.mp z)
            have i_hq136 : ¬ (a).toInt = ((201 : Int32)).toInt := fun z => hq136 (Int32.toInt_inj.mp z)
            have i_hq137 : ¬ (a).toInt = ((202 : Int32)).toInt := fun z => hq137 (Int32.toInt_inj.mp z)
            have i_hq138 : (a).toInt = ((203 : Int32)).toInt := congrArg Int32.toInt hq138
            have i_hc130 : ¬ ((0 : Int32)).toInt = ((1 : Int32)).toInt := fun z => hc130 (Int32.toInt_inj.mp z)
            have r2 := rng32 sel
            have e1 : ((sel &&& (1 : Int32))).toInt = (sel).toInt % 2 := c_mask sel (1 : Int32) 1 (by decide) (by decide)
            have e3 : (0 : Int32).toInt = 0 := rfl
            have r4 := rng32 cs
            have e5 : (255 : Int32).toInt = 255 := rfl
            have r9 := rng32 c1
            have e8 : ((c1 &&& (255 : Int32))).toInt = (c1).toInt % 256 := c_mask c1 (255 : Int32) 8 (by decide) (by decide)
            have e7 := c_i2c (c1 &&& (255 : Int32))
            have e6 : (((nar .char (((c1 &&& (255 : Int32))).toUInt32.toUInt16.toUInt32.toInt32))).toInt - ((((c1 &&& (255 : Int32))).toUInt32.toUInt16.toUInt32.toInt32)).toInt) % 65536 = 0 ∧ 0 ≤ ((nar .char (((c1 &&& (255 : Int32))).toUInt32.toUInt16.toUInt32.toInt32))).toInt ∧ ((nar .char (((c1 &&& (255 : Int32))).toUInt32.toUInt16.toUInt32.toInt32))).toInt < 65536 := c_i2c (((c1 &&& (255 : Int32))).toUInt32.toUInt16.toUInt32.toInt32)
            have r13 := rng32 c2
            have e12 : ((c2 &&& (255 : Int32))).toInt = (c2).toInt % 256 := c_mask c2 (255 : Int32) 8 (by decide) (by decide)
            have e11 := c_i2c (c2 &&& (255 : Int32))
            have e10 : (((nar .char (((c2 &&& (255 : Int32))).toUInt32.toUInt16.toUInt32.toInt32))).toInt - ((((c2 &&& (255 : Int32))).toUInt32.toUInt16.toUInt32.toInt32)).toInt) % 65536 = 0 ∧ 0 ≤ ((nar .char (((c2 &&& (255 : Int32))).toUInt32.toUInt16.toUInt32.toInt32))).toInt ∧ ((nar .char (((c2 &&& (255 : Int32))).toUInt32.toUInt16.toUInt32.toInt32))).toInt < 65536 := c_i2c (((c2 &&& (255 : Int32))).toUInt32.toUInt16.toUInt32.toInt32)
            have r14 := rng32 a
            have e15 : (200 : Int32).toInt = 200 := rfl
            have e17 := c_i2l a
            have e18 : (200 : Int64).toInt = 200 := rfl
            have e16 := c_lsub ((a).toInt64) (200 : Int64)
            have r16 := rng64 (((a).toInt64) - (200 : Int64))
            have e19 : (0 : Int64).toInt = 0 := rfl
            have e20 : (4 : Int64).toInt = 4 := rfl
            have e21 : (201 : Int32).toInt = 201 := rfl
            have e22 : (202 : Int32).toInt = 202 := rfl
            have e23 : (203 : Int32).toInt = 203 := rfl
            have e24 : (1 : Int32).toInt = 1 := rfl
            omega
          · refine G.cast (st' := [(.int (0 : Int32)), (.int (0 : Int32))]) ?_ rfl
            refine g_icmp_ne cx d0_130 (fun q => absurd q (fun q => by revert q; decide)) (fun hc130 => ?_)
            refine g_iload cx d0_133 rfl ?_
            refine g_iload cx d0_135 rfl ?_
            refine g_icmp_ne cx d0_137 (fun hc137 => ?_) (fun q => absurd q (fun q => by revert q; decide))
            refine g_iconst cx d0_144 (v := (0 : Int32)) rfl ?_
            refine g_retZ cx d0_145 rfl rfl (by decide) (by decide) ?_
            exfalso
            have i_hc3 : ((sel &&& (1 : Int32))).toInt = ((0 : Int32)).toInt := congrArg Int32.toInt hc3
            have i_hq33 : ¬ (cs).toInt = ((0 : Int32)).toInt := fun z => hq33 (Int32.toInt_inj.mp z)
            have i_hq34 : ¬ ((255 : Int32)).toInt < ((nar .char (((c1 &&& (255 : Int32))).toUInt32.toUInt16.toUInt32.toInt32))).toInt := fun z => hq34 (Int32.lt_iff_toInt_lt.mpr z)
            have i_hq47 : ¬ (cs).toInt = ((0 : Int32)).toInt := fun z => hq47 (Int32.toInt_inj.mp z)
            have i_hq48 : ¬ ((255 : Int32)).toInt < ((nar .char (((c2 &&& (255 : Int32))).toUInt32.toUInt16.toUInt32.toInt32))).toInt := fun z => hq48 (Int32.lt_iff_toInt_lt.mpr z)
            have i_hq57 : (a).toInt < ((200 : Int32)).toInt := Int32.lt_iff_toInt_lt.mp hq57
            have i_hc104 : ¬ ((((a).toInt64) - (200 : Int64))).toInt < ((0 : Int64)).toInt := fun z => hc104 (Int64.lt_iff_toInt_lt.mpr z)
            have i_hc113 : ¬ ((4 : Int64)).toInt < ((((a).toInt64) - (200 : Int64))).toInt := fun z => hc113 (Int64.lt_iff_toInt_lt.mpr z)
            have i_hq140 : ¬ (a).toInt = ((200 : Int32)).toInt := fun z => hq140 (Int32.toInt_inj.mp z)
            have i_hq141 : ¬ (a).toInt = ((201 : Int32)).toInt := fun z => hq141 (Int32.toInt_inj.mp z)
            have i_hq142 : ¬ (a).toInt = ((202 : Int32)).toInt := fun z => hq142 (Int32.toInt_inj.mp z)
            have i_hq143 : ¬ (a).toInt = ((203 : Int32)).toInt := fun z => hq143 (Int32.toInt_inj.mp z)
            have i_hq144 : ¬ (a).toInt = ((204 : Int32)).toInt := fun z => hq144 (Int32.toInt_inj.mp z)
            have i_hc130 : ((0 : Int32)).toInt = ((0 : Int32)).toInt := congrArg Int32.toInt hc130
            have i_hc137 : ¬ ((0 : Int32)).toInt = ((1 : Int32)).toInt := fun z => hc137 (Int32.toInt_inj.mp z)
            have r2 := rng32 sel
            have e1 : ((sel &&& (1 : Int32))).toInt = (sel).toInt % 2 := c_mask sel (1 : Int32) 1 (by decide) (by decide)
            have e3 : (0 : Int32).toInt = 0 := rfl
            have r4 := rng32 cs
            have e5 : (255 : Int32).toInt = 255 := rfl
            have r9 := rng32 c1
            have e8 : ((c1 &&& (255 : Int32))).toInt = (c1).toInt % 256 := c_mask c1 (255 : Int32) 8 (by decide) (by decide)
            have e7 := c_i2c (c1 &&& (255 : Int32))
            have e6 : (((nar .char (((c1 &&& (255 : Int32))).toUInt32.toUInt16.toUInt32.toInt32))).toInt - ((((c1 &&& (255 : Int32))).toUInt32.toUInt16.toUInt32.toInt32)).toInt) % 65536 = 0 ∧ 0 ≤ ((nar .char (((c1 &&& (255 : Int32))).toUInt32.toUInt16.toUInt32.toInt32))).toInt ∧ ((nar .char (((c1 &&& (255 : Int32))).toUInt32.toUInt16.toUInt32.toInt32))).toInt < 65536 := c_i2c (((c1 &&& (255 : Int32))).toUInt32.toUInt16.toUInt32.toInt32)
            have r13 := rng32 c2
            have e12 : ((c2 &&& (255 : Int32))).toInt = (c2).toInt % 256 := c_mask c2 (255 : Int32) 8 (by decide) (by decide)
            have e11 := c_i2c (c2 &&& (255 : Int32))
            have e10 : (((nar .char (((c2 &&& (255 : Int32))).toUInt32.toUInt16.toUInt32.toInt32))).toInt - ((((c2 &&& (255 : Int32))).toUInt32.toUInt16.toUInt32.toInt32)).toInt) % 65536 = 0 ∧ 0 ≤ ((nar .char (((c2 &&& (255 : Int32))).toUInt32.toUInt16.toUInt32.toInt32))).toInt ∧ ((nar .char (((c2 &&& (255 : Int32))).toUInt32.toUInt16.toUInt32.toInt32))).toInt < 65536 := c_i2c (((c2 &&& (255 : Int32))).toUInt32.toUInt16.toUInt32.toInt32)
            have r14 := rng32 a
            have e15 : (200 : Int32).toInt = 200 := rfl
            have e17 := c_i2l a
            have e18 : (200 : Int64).toInt = 200 := rfl
            have e16 := c_lsub ((a).toInt64) (200 : Int64)
            have r16 := rng64 (((a).toInt64) - (200 : Int64))
            have e19 : (0 : Int64).toInt = 0 := rfl
            have e20 : (4 : Int64).toInt = 4 := rfl
            have e21 : (201 : Int32).toInt = 201 := rfl
            have e22 : (202 : Int32).toInt = 202 := rfl
            have e23 : (203 : Int32).toInt = 203 := rfl
            have e24 : (204 : Int32).toInt = 204 := rfl
            have e25 : (1 : Int32).toInt = 1 := rfl
            omega
          · refine G.cast (st' := [(.int (1 : Int32)), (.int (0 : Int32))]) ?_ rfl
            refine g_icmp_ne cx d0_130 (fun hc130 => ?_) (fun q => absurd q (fun q => by revert q; decide))
            refine g_iconst cx d0_144 (v := (0 : Int32)) rfl ?_
            refine g_retZ cx d0_145 rfl rfl (by decide) (by decide) ?_
            exfalso
            have i_hc3 : ((sel &&& (1 : Int32))).toInt = ((0 : Int32)).toInt := congrArg Int32.toInt hc3
            have i_hq33 : ¬ (cs).toInt = ((0 : Int32)).toInt := fun z => hq33 (Int32.toInt_inj.mp z)
            have i_hq34 : ¬ ((255 : Int32)).toInt < ((nar .char (((c1 &&& (255 : Int32))).toUInt32.toUInt16.toUInt32.toInt32))).toInt := fun z => hq34 (Int32.lt_iff_toInt_lt.mpr z)
            have i_hq47 : ¬ (cs).toInt = ((0 : Int32)).toInt := fun z => hq47 (Int32.toInt_inj.mp z)
            have i_hq48 : ¬ ((255 : Int32)).toInt < ((nar .char (((c2 &&& (255 : Int32))).toUInt32.toUInt16.toUInt32.toInt32))).toInt := fun z => hq48 (Int32.lt_iff_toInt_lt.mpr z)
            have i_hq57 : (a).toInt < ((200 : Int32)).toInt := Int32.lt_iff_toInt_lt.mp hq57
            have i_hc104 : ¬ ((((a).toInt64) - (200 : Int64))).toInt < ((0 : Int64)).toInt := fun z => hc104 (Int64.lt_iff_toInt_lt.mpr z)
            have i_hc113 : ¬ ((4 : Int64)).toInt < ((((a).toInt64) - (200 : Int64))).toInt := fun z => hc113 (Int64.lt_iff_toInt_lt.mpr z)
            have i_hq146 : ¬ (a).toInt = ((200 : Int32)).toInt := fun z => hq146 (Int32.toInt_inj.mp z)
            have i_hq147 : ¬ (a).toInt = ((201 : Int32)).toInt := fun z => hq147 (Int32.toInt_inj.mp z)
            have i_hq148 : ¬ (a).toInt = ((202 : Int32)).toInt := fun z => hq148 (Int32.toInt_inj.mp z)
            have i_hq149 : ¬ (a).toInt = ((203 : Int32)).toInt := fun z => hq149 (Int32.toInt_inj.mp z)
            have i_hq150 : (a).toInt = ((204 : Int32)).toInt := congrArg Int32.toInt hq150
            have i_hc130 : ¬ ((0 : Int32)).toInt = ((1 : Int32)).toInt := fun z => hc130 (Int32.toInt_inj.mp z)
            have r2 := rng32 sel
            have e1 : ((sel &&& (1 : Int32))).toInt = (sel).toInt % 2 := c_mask sel (1 : Int32) 1 (by decide) (by decide)
            have e3 : (0 : Int32).toInt = 0 := rfl
            have r4 := rng32 cs
            have e5 : (255 : Int32).toInt = 255 := rfl
            have r9 := rng32 c1
            have e8 : ((c1 &&& (255 : Int32))).toInt = (c1).toInt % 256 := c_mask c1 (255 : Int32) 8 (by decide) (by decide)
            have e7 := c_i2c (c1 &&& (255 : Int32))
            have e6 : (((nar .char (((c1 &&& (255 : Int32))).toUInt32.toUInt16.toUInt32.toInt32))).toInt - ((((c1 &&& (255 : Int32))).toUInt32.toUInt16.toUInt32.toInt32)).toInt) % 65536 = 0 ∧ 0 ≤ ((nar .char (((c1 &&& (255 : Int32))).toUInt32.toUInt16.toUInt32.toInt32))).toInt ∧ ((nar .char (((c1 &&& (255 : Int32))).toUInt32.toUInt16.toUInt32.toInt32))).toInt < 65536 := c_i2c (((c1 &&& (255 : Int32))).toUInt32.toUInt16.toUInt32.toInt32)
            have r13 := rng32 c2
            have e12 : ((c2 &&& (255 : Int32))).toInt = (c2).toInt % 256 := c_mask c2 (255 : Int32) 8 (by decide) (by decide)
            have e11 := c_i2c (c2 &&& (255 : Int32))
            have e10 : (((nar .char (((c2 &&& (255 : Int32))).toUInt32.toUInt16.toUInt32.toInt32))).toInt - ((((c2 &&& (255 : Int32))).toUInt32.toUInt16.toUInt32.toInt32)).toInt) % 65536 = 0 ∧ 0 ≤ ((nar .char (((c2 &&& (255 : Int32))).toUInt32.toUInt16.toUInt32.toInt32))).toInt ∧ ((nar .char (((c2 &&& (255 : Int32))).toUInt32.toUInt16.toUInt32.toInt32))).toInt < 65536 := c_i2c (((c2 &&& (255 : Int32))).toUInt32.toUInt16.toUInt32.toInt32)
            have r14 := rng32 a
            have e15 : (200 : Int32).toInt = 200 := rfl
            have e17 := c_i2l a
            have e18 : (200 : Int64).toInt = 200 := rfl
            have e16 := c_lsub ((a).toInt64) (200 : Int64)
            have r16 := rng64 (((a).toInt64) - (200 : Int64))
            have e19 : (0 : Int64).toInt = 0 := rfl
            have e20 : (4 : Int64).toInt = 4 := rfl
            have e21 : (201 : Int32).toInt = 201 := rfl
            have e22 : (202 : Int32).toInt = 202 := rfl
            have e23 : (203 : Int32).toInt = 203 := rfl
            have e24 : (204 : Int32).toInt = 204 := rfl
            have e25 : (1 : Int32).toInt = 1 := rfl
            omega
    · refine G.cast (st' := [(.int (0 : Int32))]) ?_ rfl
      refine g_istore cx d0_89 (Ls' := #[.val (.int a), .val (.int sel), .val (.int c1), .val (.int c2), .val (.int a), .val (.ref b2), .val (.ref b11), .val (.ref b20), .val (.int (0 : Int32)), .unset, .unset, .unset]) rfl ?_
      refine g_iload cx d0_91 rfl ?_
      refine g_i2l cx d0_93 ?_
      refine g_ldcJ cx d0_94 (hw _ (List.mem_of_getElem? (i := 54) rfl)) ?_
      refine g_lsub cx d0_97 ?_
      refine g_lstore cx d0_98 (Ls' := #[.val (.int a), .val (.int sel), .val (.int c1), .val (.int c2), .val (.int a), .val (.ref b2), .val (.ref b11), .val (.ref b20), .val (.int (0 : Int32)), .val (.long (((a).toInt64) - (200 : Int64))), .second, .unset]) rfl ?_
      refine g_lload cx d0_100 rfl ?_
      refine g_lconst cx d0_102 (v := (0 : Int64)) rfl ?_
      refine g_lif_lt cx d0_103 d0_104 (fun hc104 => ?_) (fun hc104 => ?_)
      · refine g_iconst cx d0_120 (v := (0 : Int32)) rfl ?_
        refine g_istore cx d0_121 (Ls' := #[.val (.int a), .val (.int sel), .val (.int c1), .val (.int c2), .val (.int a), .val (.ref b2), .val (.ref b11), .val (.ref b20), .val (.int (0 : Int32)), .val (.long (((a).toInt64) - (200 : Int64))), .second, .val (.int (0 : Int32))]) rfl ?_
        refine g_iload cx d0_123 rfl ?_
        refine g_iload cx d0_125 rfl ?_
        refine g_static cx (y := (⟨"com/example/egret/egret/service/OutcomeDeliveredPinLaw", "isSuccessStatus", "(I)Z"⟩ : MethodName)) d0_127 (hw _ (List.mem_of_getElem? (i := 55) rfl)) (hw _ (List.mem_of_getElem? (i := 56) rfl)) (hw _ (List.mem_of_getElem? (i := 57) rfl)) (hw _ (List.mem_of_getElem? (i := 58) rfl)) (by decide) (bytes := method_2_code) (maxL' := 1) (M := (ra8 l Z a0 hw a _  OL cs SCS ncs)) rfl (lenOf pd_8 rfl) (by decide) (W := 1) (Nat.le_of_eq rfl) (by decide) (k' := 7) (n' := 15) rfl rfl (by decide) (by decide) (argsL := [(.int a)]) (rest := [(.int (0 : Int32))]) rfl (fun v182 h181 q183 => ?_)
        rcases q183 with ⟨hq155, rfl, rfl⟩ | ⟨hq157, hq158, rfl, rfl⟩ | ⟨hq160, hq161, hq162, rfl, rfl⟩ | ⟨hq164, hq165, hq166, hq167, rfl, rfl⟩ | ⟨hq169, hq170, hq171, hq172, hq173, rfl, rfl⟩ | ⟨hq175, hq176, hq177, hq178, hq179, rfl, rfl⟩
        · refine G.cast (st' := [(.int (1 : Int32)), (.int (0 : Int32))]) ?_ rfl
          refine g_icmp_ne cx d0_130 (fun hc130 => ?_) (fun q => absurd q (fun q => by revert q; decide))
          refine g_iconst cx d0_144 (v := (0 : Int32)) rfl ?_
          refine g_retZ cx d0_145 rfl rfl (by decide) (by decide) ?_
          exfalso
          have i_hc3 : ((sel &&& (1 : Int32))).toInt = ((0 : Int32)).toInt := congrArg Int32.toInt hc3
          have i_hq33 : ¬ (cs).toInt = ((0 : Int32)).toInt := fun z => hq33 (Int32.toInt_inj.mp z)
          have i_hq34 : ¬ ((255 : Int32)).toInt < ((nar .char (((c1 &&& (255 : Int32))).toUInt32.toUInt16.toUInt32.toInt32))).toInt := fun z => hq34 (Int32.lt_iff_toInt_lt.mpr z)
          have i_hq47 : ¬ (cs).toInt = ((0 : Int32)).toInt := fun z => hq47 (Int32.toInt_inj.mp z)
          have i_hq48 : ¬ ((255 : Int32)).toInt < ((nar .char (((c2 &&& (255 : Int32))).toUInt32.toUInt16.toUInt32.toInt32))).toInt := fun z => hq48 (Int32.lt_iff_toInt_lt.mpr z)
          have i_hq59 : ¬ (a).toInt < ((200 : Int32)).toInt := fun z => hq59 (Int32.lt_iff_toInt_lt.mpr z)
          have i_hq60 : ((204 : Int32)).toInt < (a).toInt := Int32.lt_iff_toInt_lt.mp hq60
          have i_hc104 : ((((a).toInt64) - (200 : Int64))).toInt < ((0 : Int64)).toInt := Int64.lt_iff_toInt_lt.mp hc104
          have i_hq155 : (a).toInt = ((200 : Int32)).toInt := congrArg Int32.toInt hq155
          have i_hc130 : ¬ ((0 : Int32)).toInt = ((1 : Int32)).toInt := fun z => hc130 (Int32.toInt_inj.mp z)
          have r2 := rng32 sel
          have e1 : ((sel &&& (1 : Int32))).toInt = (sel).toInt % 2 := c_mask sel (1 : Int32) 1 (by decide) (by decide)
          have e3 : (0 : Int32).toInt = 0 := rfl
          have r4 := rng32 cs
          have e5 : (255 : Int32).toInt = 255 := rfl
          have r9 := rng32 c1
          have e8 : ((c1 &&& (255 : Int32))).toInt = (c1).toInt % 256 := c_mask c1 (255 : Int32) 8 (by decide) (by decide)
          have e7 := c_i2c (c1 &&& (255 : Int32))
          have e6 : (((nar .char (((c1 &&& (255 : Int32))).toUInt32.toUInt16.toUInt32.toInt32))).toInt - ((((c1 &&& (255 : Int32))).toUInt32.toUInt16.toUInt32.toInt32)).toInt) % 65536 = 0 ∧ 0 ≤ ((nar .char (((c1 &&& (255 : Int32))).toUInt32.toUInt16.toUInt32.toInt32))).toInt ∧ ((nar .char (((c1 &&& (255 : Int32))).toUInt32.toUInt16.toUInt32.toInt32))).toInt < 65536 := c_i2c (((c1 &&& (255 : Int32))).toUInt32.toUInt16.toUInt32.toInt32)
          have r13 := rng32 c2
          have e12 : ((c2 &&& (255 : Int32))).toInt = (c2).toInt % 256 := c_mask c2 (255 : Int32) 8 (by decide) (by decide)
          have e11 := c_i2c (c2 &&& (255 : Int32))
          have e10 : (((nar .char (((c2 &&& (255 : Int32))).toUInt32.toUInt16.toUInt32.toInt32))).toInt - ((((c2 &&& (255 : Int32))).toUInt32.toUInt16.toUInt32.toInt32)).toInt) % 65536 = 0 ∧ 0 ≤ ((nar .char (((c2 &&& (255 : Int32))).toUInt32.toUInt16.toUInt32.toInt32))).toInt ∧ ((nar .char (((c2 &&& (255 : Int32))).toUInt32.toUInt16.toUInt32.toInt32))).toInt < 65536 := c_i2c (((c2 &&& (255 : Int32))).toUInt32.toUInt16.toUInt32.toInt32)
          have r14 := rng32 a
          have e15 : (200 : Int32).toInt = 200 := rfl
          have e16 : (204 : Int32).toInt = 204 := rfl
          have e18 := c_i2l a
          have e19 : (200 : Int64).toInt = 200 := rfl
          have e17 := c_lsub ((a).toInt64) (200 : Int64)
          have r17 := rng64 (((a).toInt64) - (200 : Int64))
          have e20 : (0 : Int64).toInt = 0 := rfl
          have e21 : (1 : Int32).toInt = 1 := rfl
          omega
        · refine G.cast (st' := [(.int (1 : Int32)), (.int (0 : Int32))]) ?_ rfl
          refine g_icmp_ne cx d0_130 (fun hc130 => ?_) (fun q => absurd q (fun q => by revert q; decide))
          refine g_iconst cx d0_144 (v := (0 : Int32)) rfl ?_
          refine g_retZ cx d0_145 rfl rfl (by decide) (by decide) ?_
          exfalso
          have i_hc3 : ((sel &&& (1 : Int32))).toInt = ((0 : Int32)).toInt := congrArg Int32.toInt hc3
          have i_hq33 : ¬ (cs).toInt = ((0 : Int32)).toInt := fun z => hq33 (Int32.toInt_inj.mp z)
          have i_hq34 : ¬ ((255 : Int32)).toInt < ((nar .char (((c1 &&& (255 : Int32))).toUInt32.toUInt16.toUInt32.toInt32))).toInt := fun z => hq34 (Int32.lt_iff_toInt_lt.mpr z)
          have i_hq47 : ¬ (cs).toInt = ((0 : Int32)).toInt := fun z => hq47 (Int32.toInt_inj.mp z)
          have i_hq48 : ¬ ((255 : Int32)).toInt < ((nar .char (((c2 &&& (255 : Int32))).toUInt32.toUInt16.toUInt32.toInt32))).toInt := fun z => hq48 (Int32.lt_iff_toInt_lt.mpr z)
          have i_hq59 : ¬ (a).toInt < ((200 : Int32)).toInt := fun z => hq59 (Int32.lt_iff_toInt_lt.mpr z)
          have i_hq60 : ((204 : Int32)).toInt < (a).toInt := Int32.lt_iff_toInt_lt.mp hq60
          have i_hc104 : ((((a).toInt64) - (200 : Int64))).toInt < ((0 : Int64)).toInt := Int64.lt_iff_toInt_lt.mp hc104
          have i_hq157 : ¬ (a).toInt = ((200 : Int32)).toInt := fun z => hq157 (Int32.toInt_inj.mp z)
          have i_hq158 : (a).toInt = ((201 : Int32)).toInt := congrArg Int32.toInt hq158
          have i_hc130 : ¬ ((0 : Int32)).toInt = ((1 : Int32)).toInt := fun z => hc130 (Int32.toInt_inj.mp z)
          have r2 := rng32 sel
          have e1 : ((sel &&& (1 : Int32))).toInt = (sel).toInt % 2 := c_mask sel (1 : Int32) 1 (by decide) (by decide)
          have e3 : (0 : Int32).toInt = 0 := rfl
          have r4 := rng32 cs
          have e5 : (255 : Int32).toInt = 255 := rfl
          have r9 := rng32 c1
          have e8 : ((c1 &&& (255 : Int32))).toInt = (c1).toInt % 256 := c_mask c1 (255 : Int32) 8 (by decide) (by decide)
          have e7 := c_i2c (c1 &&& (255 : Int32))
          have e6 : (((nar .char (((c1 &&& (255 : Int32))).toUInt32.toUInt16.toUInt32.toInt32))).toInt - ((((c1 &&& (255 : Int32))).toUInt32.toUInt16.toUInt32.toInt32)).toInt) % 65536 = 0 ∧ 0 ≤ ((nar .char (((c1 &&& (255 : Int32))).toUInt32.toUInt16.toUInt32.toInt32))).toInt ∧ ((nar .char (((c1 &&& (255 : Int32))).toUInt32.toUInt16.toUInt32.toInt32))).toInt < 65536 := c_i2c (((c1 &&& (255 : Int32))).toUInt32.toUInt16.toUInt32.toInt32)
          have r13 := rng32 c2
          have e12 : ((c2 &&& (255 : Int32))).toInt = (c2).toInt % 256 := c_mask c2 (255 : Int32) 8 (by decide) (by decide)
          have e11 := c_i2c (c2 &&& (255 : Int32))
          have e10 : (((nar .char (((c2 &&& (255 : Int32))).toUInt32.toUInt16.toUInt32.toInt32))).toInt - ((((c2 &&& (255 : Int32))).toUInt32.toUInt16.toUInt32.toInt32)).toInt) % 65536 = 0 ∧ 0 ≤ ((nar .char (((c2 &&& (255 : Int32))).toUInt32.toUInt16.toUInt32.toInt32))).toInt ∧ ((nar .char (((c2 &&& (255 : Int32))).toUInt32.toUInt16.toUInt32.toInt32))).toInt < 65536 := c_i2c (((c2 &&& (255 : Int32))).toUInt32.toUInt16.toUInt32.toInt32)
          have r14 := rng32 a
          have e15 : (200 : Int32).toInt = 200 := rfl
          have e16 : (204 : Int32).toInt = 204 := rfl
          have e18 := c_i2l a
          have e19 : (200 : Int64).toInt = 200 := rfl
          have e17 := c_lsub ((a).toInt64) (200 : Int64)
          have r17 := rng64 (((a).toInt64) - (200 : Int64))
          have e20 : (0 : Int64).toInt = 0 := rfl
          have e21 : (201 : Int32).toInt = 201 := rfl
          have e22 : (1 : Int32).toInt = 1 := rfl
          omega
        · refine G.cast (st' := [(.int (1 : Int32)), (.int (0 : Int32))]) ?_ rfl
          refine g_icmp_ne cx d0_130 (fun hc130 => ?_) (fun q => absurd q (fun q => by revert q; decide))
          refine g_iconst cx d0_144 (v := (0 : Int32)) rfl ?_
          refine g_retZ cx d0_145 rfl rfl (by decide) (by decide) ?_
          exfalso
          have i_hc3 : ((sel &&& (1 : Int32))).toInt = ((0 : Int32)).toInt := congrArg Int32.toInt hc3
          have i_hq33 : ¬ (cs).toInt = ((0 : Int32)).toInt := fun z => hq33 (Int32.toInt_inj.mp z)
          have i_hq34 : ¬ ((255 : Int32)).toInt < ((nar .char (((c1 &&& (255 : Int32))).toUInt32.toUInt16.toUInt32.toInt32))).toInt := fun z => hq34 (Int32.lt_iff_toInt_lt.mpr z)
          have i_hq47 : ¬ (cs).toInt = ((0 : Int32)).toInt := fun z => hq47 (Int32.toInt_inj.mp z)
          have i_hq48 : ¬ ((255 : Int32)).toInt < ((nar .char (((c2 &&& (255 : Int32))).toUInt32.toUInt16.toUInt32.toInt32))).toInt := fun z => hq48 (Int32.lt_iff_toInt_lt.mpr z)
          have i_hq59 : ¬ (a).toInt < ((200 : Int32)).toInt := fun z => hq59 (Int32.lt_iff_toInt_lt.mpr z)
          have i_hq60 : ((204 : Int32)).toInt < (a).toInt := Int32.lt_iff_toInt_lt.mp hq60
          have i_hc104 : ((((a).toInt64) - (200 : Int64))).toInt < ((0 : Int64)).toInt := Int64.lt_iff_toInt_lt.mp hc104
          have i_hq160 : ¬ (a).toInt = ((200 : Int32)).toInt := fun z => hq160 (Int32.toInt_inj.mp z)
          have i_hq161 : ¬ (a).toInt = ((201 : Int32)).toInt := fun z => hq161 (Int32.toInt_inj.mp z)
          have i_hq162 : (a).toInt = ((202 : Int32)).toInt := congrArg Int32.toInt hq162
          have i_hc130 : ¬ ((0 : Int32)).toInt = ((1 : Int32)).toInt := fun z => hc130 (Int32.toInt_inj.mp z)
          have r2 := rng32 sel
          have e1 : ((sel &&& (1 : Int32))).toInt = (sel).toInt % 2 := c_mask sel (1 : Int32) 1 (by decide) (by decide)
          have e3 : (0 : Int32).toInt = 0 := rfl
          have r4 := rng32 cs
          have e5 : (255 : Int32).toInt = 255 := rfl
          have r9 := rng32 c1
          have e8 : ((c1 &&& (255 : Int32))).toInt = (c1).toInt % 256 := c_mask c1 (255 : Int32) 8 (by decide) (by decide)
          have e7 := c_i2c (c1 &&& (255 : Int32))
          have e6 : (((nar .char (((c1 &&& (255 : Int32))).toUInt32.toUInt16.toUInt32.toInt32))).toInt - ((((c1 &&& (255 : Int32))).toUInt32.toUInt16.toUInt32.toInt32)).toInt) % 65536 = 0 ∧ 0 ≤ ((nar .char (((c1 &&& (255 : Int32))).toUInt32.toUInt16.toUInt32.toInt32))).toInt ∧ ((nar .char (((c1 &&& (255 : Int32))).toUInt32.toUInt16.toUInt32.toInt32))).toInt < 65536 := c_i2c (((c1 &&& (255 : Int32))).toUInt32.toUInt16.toUInt32.toInt32)
          have r13 := rng32 c2
          have e12 : ((c2 &&& (255 : Int32))).toInt = (c2).toInt % 256 := c_mask c2 (255 : Int32) 8 (by decide) (by decide)
          have e11 := c_i2c (c2 &&& (255 : Int32))
          have e10 : (((nar .char (((c2 &&& (255 : Int32))).toUInt32.toUInt16.toUInt32.toInt32))).toInt - ((((c2 &&& (255 : Int32))).toUInt32.toUInt16.toUInt32.toInt32)).toInt) % 65536 = 0 ∧ 0 ≤ ((nar .char (((c2 &&& (255 : Int32))).toUInt32.toUInt16.toUInt32.toInt32))).toInt ∧ ((nar .char (((c2 &&& (255 : Int32))).toUInt32.toUInt16.toUInt32.toInt32))).toInt < 65536 := c_i2c (((c2 &&& (255 : Int32))).toUInt32.toUInt16.toUInt32.toInt32)
          have r14 := rng32 a
          have e15 : (200 : Int32).toInt = 200 := rfl
          have e16 : (204 : Int32).toInt = 204 := rfl
          have e18 := c_i2l a
          have e19 : (200 : Int64).toInt = 200 := rfl
          have e17 := c_lsub ((a).toInt64) (200 : Int64)
          have r17 := rng64 (((a).toInt64) - (200 : Int64))
          have e20 : (0 : Int64).toInt = 0 := rfl
          have e21 : (201 : Int32).toInt = 201 := rfl
          have e22 : (202 : Int32).toInt = 202 := rfl
          have e23 : (1 : Int32).toInt = 1 := rfl
          omega
        · refine G.cast (st' := [(.int (1 : Int32)), (.int (0 : Int32))]) ?_ rfl
          refine g_icmp_ne cx d0_130 (fun hc130 => ?_) (fun q => absurd q (fun q => by revert q; decide))
          refine g_iconst cx d0_144 (v := (0 : Int32)) rfl ?_
          refine g_retZ cx d0_145 rfl rfl (by decide) (by decide) ?_
          exfalso
          have i_hc3 : ((sel &&& (1 : Int32))).toInt = ((0 : Int32)).toInt := congrArg Int32.toInt hc3
          have i_hq33 : ¬ (cs).toInt = ((0 : Int32)).toInt := fun z => hq33 (Int32.toInt_inj.mp z)
          have i_hq34 : ¬ ((255 : Int32)).toInt < ((nar .char (((c1 &&& (255 : Int32))).toUInt32.toUInt16.toUInt32.toInt32))).toInt := fun z => hq34 (Int32.lt_iff_toInt_lt.mpr z)
          have i_hq47 : ¬ (cs).toInt = ((0 : Int32)).toInt := fun z => hq47 (Int32.toInt_inj.mp z)
          have i_hq48 : ¬ ((255 : Int32)).toInt < ((nar .char (((c2 &&& (255 : Int32))).toUInt32.toUInt16.toUInt32.toInt32))).toInt := fun z => hq48 (Int32.lt_iff_toInt_lt.mpr z)
          have i_hq59 : ¬ (a).toInt < ((200 : Int32)).toInt := fun z => hq59 (Int32.lt_iff_toInt_lt.mpr z)
          have i_hq60 : ((204 : Int32)).toInt < (a).toInt := Int32.lt_iff_toInt_lt.mp hq60
          have i_hc104 : ((((a).toInt64) - (200 : Int64))).toInt < ((0 : Int64)).toInt := Int64.lt_iff_toInt_lt.mp hc104
          have i_hq164 : ¬ (a).toInt = ((200 : Int32)).toInt := fun z => hq164 (Int32.toInt_inj.mp z)
          have i_hq165 : ¬ (a).toInt = ((201 : Int32)).toInt := fun z => hq165 (Int32.toInt_inj.mp z)
          have i_hq166 : ¬ (a).toInt = ((202 : Int32)).toInt := fun z => hq166 (Int32.toInt_inj.mp z)
          have i_hq167 : (a).toInt = ((203 : Int32)).toInt := congrArg Int32.toInt hq167
          have i_hc130 : ¬ ((0 : Int32)).toInt = ((1 : Int32)).toInt := fun z => hc130 (Int32.toInt_inj.mp z)
          have r2 := rng32 sel
          have e1 : ((sel &&& (1 : Int32))).toInt = (sel).toInt % 2 := c_mask sel (1 : Int32) 1 (by decide) (by decide)
          have e3 : (0 : Int32).toInt = 0 := rfl
          have r4 := rng32 cs
          have e5 : (255 : Int32).toInt = 255 := rfl
          have r9 := rng32 c1
          have e8 : ((c1 &&& (255 : Int32))).toInt = (c1).toInt % 256 := c_mask c1 (255 : Int32) 8 (by decide) (by decide)
          have e7 := c_i2c (c1 &&& (255 : Int32))
          have e6 : (((nar .char (((c1 &&& (255 : Int32))).toUInt32.toUInt16.toUInt32.toInt32))).toInt - ((((c1 &&& (255 : Int32))).toUInt32.toUInt16.toUInt32.toInt32)).toInt) % 65536 = 0 ∧ 0 ≤ ((nar .char (((c1 &&& (255 : Int32))).toUInt32.toUInt16.toUInt32.toInt32))).toInt ∧ ((nar .char (((c1 &&& (255 : Int32))).toUInt32.toUInt16.toUInt32.toInt32))).toInt < 65536 := c_i2c (((c1 &&& (255 : Int32))).toUInt32.toUInt16.toUInt32.toInt32)
          have r13 := rng32 c2
          have e12 : ((c2 &&& (255 : Int32))).toInt = (c2).toInt % 256 := c_mask c2 (255 : Int32) 8 (by decide) (by decide)
          have e11 := c_i2c (c2 &&& (255 : Int32))
          have e10 : (((nar .char (((c2 &&& (255 : Int32))).toUInt32.toUInt16.toUInt32.toInt32))).toInt - ((((c2 &&& (255 : Int32))).toUInt32.toUInt16.toUInt32.toInt32)).toInt) % 65536 = 0 ∧ 0 ≤ ((nar .char (((c2 &&& (255 : Int32))).toUInt32.toUInt16.toUInt32.toInt32))).toInt ∧ ((nar .char (((c2 &&& (255 : Int32))).toUInt32.toUInt16.toUInt32.toInt32))).toInt < 65536 := c_i2c (((c2 &&& (255 : Int32))).toUInt32.toUInt16.toUInt32.toInt32)
          have r14 := rng32 a
          have e15 : (200 : Int32).toInt = 200 := rfl
          have e16 : (204 : Int32).toInt = 204 := rfl
          have e18 := c_i2l a
          have e19 : (200 : Int64).toInt = 200 := rfl
          have e17 := c_lsub ((a).toInt64) (200 : Int64)
          have r17 := rng64 (((a).toInt64) - (200 : Int64))
          have e20 : (0 : Int64).toInt = 0 := rfl
          have e21 : (201 : Int32).toInt = 201 := rfl
          have e22 : (202 : Int32).toInt = 202 := rfl
          have e23 : (203 : Int32).toInt = 203 := rfl
          have e24 : (1 : Int32).toInt = 1 := rfl
          omega
        · refine G.cast (st' := [(.int (0 : Int32)), (.int (0 : Int32))]) ?_ rfl
          refine g_icmp_ne cx d0_130 (fun q => absurd q (fun q => by revert q; decide)) (fun hc130 => ?_)
          refine g_iload cx d0_133 rfl ?_
          refine g_iload cx d0_135 rfl ?_
          refine g_icmp_ne cx d0_137 (fun q => absurd q (fun q => by revert q; decide)) (fun hc137 => ?_)
          refine g_iconst cx d0_140 (v := (1 : Int32)) rfl ?_
          refine g_goto cx d0_141 ?_
          refine g_retZ cx d0_145 rfl rfl (by decide) (by decide) ?_
          rfl
        · refine G.cast (st' := [(.int (1 : Int32)), (.int (0 : Int32))]) ?_ rfl
          refine g_icmp_ne cx d0_130 (fun hc130 => ?_) (fun q => absurd q (fun q => by revert q; decide))
          refine g_iconst cx d0_144 (v := (0 : Int32)) rfl ?_
          refine g_retZ cx d0_145 rfl rfl (by decide) (by decide) ?_
          exfalso
          have i_hc3 : ((sel &&& (1 : Int32))).toInt = ((0 : Int32)).toInt := congrArg Int32.toInt hc3
          have i_hq33 : ¬ (cs).toInt = ((0 : Int32)).toInt := fun z => hq33 (Int32.toInt_inj.mp z)
          have i_hq34 : ¬ ((255 : Int32)).toInt < ((nar .char (((c1 &&& (255 : Int32))).toUInt32.toUInt16.toUInt32.toInt32))).toInt := fun z => hq34 (Int32.lt_iff_toInt_lt.mpr z)
          have i_hq47 : ¬ (cs).toInt = ((0 : Int32)).toInt := fun z => hq47 (Int32.toInt_inj.mp z)
          have i_hq48 : ¬ ((255 : Int32)).toInt < ((nar .char (((c2 &&& (255 : Int32))).toUInt32.toUInt16.toUInt32.toInt32))).toInt := fun z => hq48 (Int32.lt_iff_toInt_lt.mpr z)
          have i_hq59 : ¬ (a).toInt < ((200 : Int32)).toInt := fun z => hq59 (Int32.lt_iff_toInt_lt.mpr z)
          have i_hq60 : ((204 : Int32)).toInt < (a).toInt := Int32.lt_iff_toInt_lt.mp hq60
          have i_hc104 : ((((a).toInt64) - (200 : Int64))).toInt < ((0 : Int64)).toInt := Int64.lt_iff_toInt_lt.mp hc104
          have i_hq175 : ¬ (a).toInt = ((200 : Int32)).toInt := fun z => hq175 (Int32.toInt_inj.mp z)
          have i_hq176 : ¬ (a).toInt = ((201 : Int32)).toInt := fun z => hq176 (Int32.toInt_inj.mp z)
          have i_hq177 : ¬ (a).toInt = ((202 : Int32)).toInt := fun z => hq177 (Int32.toInt_inj.mp z)
          have i_hq178 : ¬ (a).toInt = ((203 : Int32)).toInt := fun z => hq178 (Int32.toInt_inj.mp z)
          have i_hq179 : (a).toInt = ((204 : Int32)).toInt := congrArg Int32.toInt hq179
          have i_hc130 : ¬ ((0 : Int32)).toInt = ((1 : Int32)).toInt := fun z => hc130 (Int32.toInt_inj.mp z)
          have r2 := rng32 sel
          have e1 : ((sel &&& (1 : Int32))).toInt = (sel).toInt % 2 := c_mask sel (1 : Int32) 1 (by decide) (by decide)
          have e3 : (0 : Int32).toInt = 0 := rfl
          have r4 := rng32 cs
          have e5 : (255 : Int32).toInt = 255 := rfl
          have r9 := rng32 c1
          have e8 : ((c1 &&& (255 : Int32))).toInt = (c1).toInt % 256 := c_mask c1 (255 : Int32) 8 (by decide) (by decide)
          have e7 := c_i2c (c1 &&& (255 : Int32))
          have e6 : (((nar .char (((c1 &&& (255 : Int32))).toUInt32.toUInt16.toUInt32.toInt32))).toInt - ((((c1 &&& (255 : Int32))).toUInt32.toUInt16.toUInt32.toInt32)).toInt) % 65536 = 0 ∧ 0 ≤ ((nar .char (((c1 &&& (255 : Int32))).toUInt32.toUInt16.toUInt32.toInt32))).toInt ∧ ((nar .char (((c1 &&& (255 : Int32))).toUInt32.toUInt16.toUInt32.toInt32))).toInt < 65536 := c_i2c (((c1 &&& (255 : Int32))).toUInt32.toUInt16.toUInt32.toInt32)
          have r13 := rng32 c2
          have e12 : ((c2 &&& (255 : Int32))).toInt = (c2).toInt % 256 := c_mask c2 (255 : Int32) 8 (by decide) (by decide)
          have e11 := c_i2c (c2 &&& (255 : Int32))
          have e10 : (((nar .char (((c2 &&& (255 : Int32))).toUInt32.toUInt16.toUInt32.toInt32))).toInt - ((((c2 &&& (255 : Int32))).toUInt32.toUInt16.toUInt32.toInt32)).toInt) % 65536 = 0 ∧ 0 ≤ ((nar .char (((c2 &&& (255 : Int32))).toUInt32.toUInt16.toUInt32.toInt32))).toInt ∧ ((nar .char (((c2 &&& (255 : Int32))).toUInt32.toUInt16.toUInt32.toInt32))).toInt < 65536 := c_i2c (((c2 &&& (255 : Int32))).toUInt32.toUInt16.toUInt32.toInt32)
          have r14 := rng32 a
          have e15 : (200 : Int32).toInt = 200 := rfl
          have e16 : (204 : Int32).toInt = 204 := rfl
          have e18 := c_i2l a
          have e19 : (200 : Int64).toInt = 200 := rfl
          have e17 := c_lsub ((a).toInt64) (200 : Int64)
          have r17 := rng64 (((a).toInt64) - (200 : Int64))
          have e20 : (0 : Int64).toInt = 0 := rfl
          have e21 : (201 : Int32).toInt = 201 := rfl
          have e22 : (202 : Int32).toInt = 202 := rfl
          have e23 : (203 : Int32).toInt = 203 := rfl
          have e24 : (1 : Int32).toInt = 1 := rfl
          omega
      · refine g_lload cx d0_107 rfl ?_
        refine g_ldcJ cx d0_109 (hw _ (List.mem_of_getElem? (i := 59) rfl)) ?_
        refine g_lif_gt cx d0_112 d0_113 (fun hc113 => ?_) (fun hc113 => ?_)
        · refine g_iconst cx d0_120 (v := (0 : Int32)) rfl ?_
          refine g_istore cx d0_121 (Ls' := #[.val (.int a), .val (.int sel), .val (.int c1), .val (.int c2), .val (.int a), .val (.ref b2), .val (.ref b11), .val (.ref b20), .val (.int (0 : Int32)), .val (.long (((a).toInt64) - (200 : Int64))), .second, .val (.int (0 : Int32))]) rfl ?_
          refine g_iload cx d0_123 rfl ?_
          refine g_iload cx d0_125 rfl ?_
          refine g_static cx (y := (⟨"com/example/egret/egret/service/OutcomeDeliveredPinLaw", "isSuccessStatus", "(I)Z"⟩ : MethodName)) d0_127 (hw _ (List.mem_of_getElem? (i := 55) rfl)) (hw _ (List.mem_of_getElem? (i := 56) rfl)) (hw _ (List.mem_of_getElem? (i := 57) rfl)) (hw _ (List.mem_of_getElem? (i := 58) rfl)) (by decide) (bytes := method_2_code) (maxL' := 1) (M := (ra8 l Z a0 hw a _  OL cs SCS ncs)) rfl (lenOf pd_8 rfl) (by decide) (W := 1) (Nat.le_of_eq rfl) (by decide) (k' := 7) (n' := 15) rfl rfl (by decide) (by decide) (argsL := [(.int a)]) (rest := [(.int (0 : Int32))]) rfl (fun v211 h210 q212 => ?_)
          rcases q212 with ⟨hq184, rfl, rfl⟩ | ⟨hq186, hq187, rfl, rfl⟩ | ⟨hq189, hq190, hq191, rfl, rfl⟩ | ⟨hq193, hq194, hq195, hq196, rfl, rfl⟩ | ⟨hq198, hq199, hq200, hq201, hq202, rfl, rfl⟩ | ⟨hq204, hq205, hq206, hq207, hq208, rfl, rfl⟩
          · refine G.cast (st' := [(.int (1 : Int32)), (.int (0 : Int32))]) ?_ rfl
            refine g_icmp_ne cx d0_130 (fun hc130 => ?_) (fun q => absurd q (fun q => by revert q; decide))
            refine g_iconst cx d0_144 (v := (0 : Int32)) rfl ?_
            refine g_retZ cx d0_145 rfl rfl (by decide) (by decide) ?_
            exfalso
            have i_hc3 : ((sel &&& (1 : Int32))).toInt = ((0 : Int32)).toInt := congrArg Int32.toInt hc3
            have i_hq33 : ¬ (cs).toInt = ((0 : Int32)).toInt := fun z => hq33 (Int32.toInt_inj.mp z)
            have i_hq34 : ¬ ((255 : Int32)).toInt < ((nar .char (((c1 &&& (255 : Int32))).toUInt32.toUInt16.toUInt32.toInt32))).toInt := fun z => hq34 (Int32.lt_iff_toInt_lt.mpr z)
            have i_hq47 : ¬ (cs).toInt = ((0 : Int32)).toInt := fun z => hq47 (Int32.toInt_inj.mp z)
            have i_hq48 : ¬ ((255 : Int32)).toInt < ((nar .char (((c2 &&& (255 : Int32))).toUInt32.toUInt16.toUInt32.toInt32))).toInt := fun z => hq48 (Int32.lt_iff_toInt_lt.mpr z)
            have i_hq59 : ¬ (a).toInt < ((200 : Int32)).toInt := fun z => hq59 (Int32.lt_iff_toInt_lt.mpr z)
            have i_hq60 : ((204 : Int32)).toInt < (a).toInt := Int32.lt_iff_toInt_lt.mp hq60
            have i_hc104 : ¬ ((((a).toInt64) - (200 : Int64))).toInt < ((0 : Int64)).toInt := fun z => hc104 (Int64.lt_iff_toInt_lt.mpr z)
            have i_hc113 : ((4 : Int64)).toInt < ((((a).toInt64) - (200 : Int64))).toInt := Int64.lt_iff_toInt_lt.mp hc113
            have i_hq184 : (a).toInt = ((200 : Int32)).toInt := congrArg Int32.toInt hq184
            have i_hc130 : ¬ ((0 : Int32)).toInt = ((1 : Int32)).toInt := fun z => hc130 (Int32.toInt_inj.mp z)
            have r2 := rng32 sel
            have e1 : ((sel &&& (1 : Int32))).toInt = (sel).toInt % 2 := c_mask sel (1 : Int32) 1 (by decide) (by decide)
            have e3 : (0 : Int32).toInt = 0 := rfl
            have r4 := rng32 cs
            have e5 : (255 : Int32).toInt = 255 := rfl
            have r9 := rng32 c1
            have e8 : ((c1 &&& (255 : Int32))).toInt = (c1).toInt % 256 := c_mask c1 (255 : Int32) 8 (by decide) (by decide)
            have e7 := c_i2c (c1 &&& (255 : Int32))
            have e6 : (((nar .char (((c1 &&& (255 : Int32))).toUInt32.toUInt16.toUInt32.toInt32))).toInt - ((((c1 &&& (255 : Int32))).toUInt32.toUInt16.toUInt32.toInt32)).toInt) % 65536 = 0 ∧ 0 ≤ ((nar .char (((c1 &&& (255 : Int32))).toUInt32.toUInt16.toUInt32.toInt32))).toInt ∧ ((nar .char (((c1 &&& (255 : Int32))).toUInt32.toUInt16.toUInt32.toInt32))).toInt < 65536 := c_i2c (((c1 &&& (255 : Int32))).toUInt32.toUInt16.toUInt32.toInt32)
            have r13 := rng32 c2
            have e12 : ((c2 &&& (255 : Int32))).toInt = (c2).toInt % 256 := c_mask c2 (255 : Int32) 8 (by decide) (by decide)
            have e11 := c_i2c (c2 &&& (255 : Int32))
            have e10 : (((nar .char (((c2 &&& (255 : Int32))).toUInt32.toUInt16.toUInt32.toInt32))).toInt - ((((c2 &&& (255 : Int32))).toUInt32.toUInt16.toUInt32.toInt32)).toInt) % 65536 = 0 ∧ 0 ≤ ((nar .char (((c2 &&& (255 : Int32))).toUInt32.toUInt16.toUInt32.toInt32))).toInt ∧ ((nar .char (((c2 &&& (255 : Int32))).toUInt32.toUInt16.toUInt32.toInt32))).toInt < 65536 := c_i2c (((c2 &&& (255 : Int32))).toUInt32.toUInt16.toUInt32.toInt32)
            have r14 := rng32 a
            have e15 : (200 : Int32).toInt = 200 := rfl
            have e16 : (204 : Int32).toInt = 204 := rfl
            have e18 := c_i2l a
            have e19 : (200 : Int64).toInt = 200 := rfl
            have e17 := c_lsub ((a).toInt64) (200 : Int64)
            have r17 := rng64 (((a).toInt64) - (200 : Int64))
            have e20 : (0 : Int64).toInt = 0 := rfl
            have e21 : (4 : Int64).toInt = 4 := rfl
            have e22 : (1 : Int32).toInt = 1 := rfl
            omega
          · refine G.cast (st' := [(.int (1 : Int32)), (.int (0 : Int32))]) ?_ rfl
            refine g_icmp_ne cx d0_130 (fun hc130 => ?_) (fun q => absurd q (fun q => by revert q; decide))
            refine g_iconst cx d0_144 (v := (0 : Int32)) rfl ?_
            refine g_retZ cx d0_145 rfl rfl (by decide) (by decide) ?_
            exfalso
            have i_hc3 : ((sel &&& (1 : Int32))).toInt = ((0 : Int32)).toInt := congrArg Int32.toInt hc3
            have i_hq33 : ¬ (cs).toInt = ((0 : Int32)).toInt := fun z => hq33 (Int32.toInt_inj.mp z)
            have i_hq34 : ¬ ((255 : Int32)).toInt < ((nar .char (((c1 &&& (255 : Int32))).toUInt32.toUInt16.toUInt32.toInt32))).toInt := fun z => hq34 (Int32.lt_iff_toInt_lt.mpr z)
            have i_hq47 : ¬ (cs).toInt = ((0 : Int32)).toInt := fun z => hq47 (Int32.toInt_inj.mp z)
            have i_hq48 : ¬ ((255 : Int32)).toInt < ((nar .char (((c2 &&& (255 : Int32))).toUInt32.toUInt16.toUInt32.toInt32))).toInt := fun z => hq48 (Int32.lt_iff_toInt_lt.mpr z)
            have i_hq59 : ¬ (a).toInt < ((200 : Int32)).toInt := fun z => hq59 (Int32.lt_iff_toInt_lt.mpr z)
            have i_hq60 : ((204 : Int32)).toInt < (a).toInt := Int32.lt_iff_toInt_lt.mp hq60
            have i_hc104 : ¬ ((((a).toInt64) - (200 : Int64))).toInt < ((0 : Int64)).toInt := fun z => hc104 (Int64.lt_iff_toInt_lt.mpr z)
            have i_hc113 : ((4 : Int64)).toInt < ((((a).toInt64) - (200 : Int64))).toInt := Int64.lt_iff_toInt_lt.mp hc113
            have i_hq186 : ¬ (a).toInt = ((200 : Int32)).toInt := fun z => hq186 (Int32.toInt_inj.mp z)
            have i_hq187 : (a).toInt = ((201 : Int32)).toInt := congrArg Int32.toInt hq187
            have i_hc130 : ¬ ((0 : Int32)).toInt = ((1 : Int32)).toInt := fun z => hc130 (Int32.toInt_inj.mp z)
            have r2 := rng32 sel
            have e1 : ((sel &&& (1 : Int32))).toInt = (sel).toInt % 2 := c_mask sel (1 : Int32) 1 (by decide) (by decide)
            have e3 : (0 : Int32).toInt = 0 := rfl
            have r4 := rng32 cs
            have e5 : (255 : Int32).toInt = 255 := rfl
            have r9 := rng32 c1
            have e8 : ((c1 &&& (255 : Int32))).toInt = (c1).toInt % 256 := c_mask c1 (255 : Int32) 8 (by decide) (by decide)
            have e7 := c_i2c (c1 &&& (255 : Int32))
            have e6 : (((nar .char (((c1 &&& (255 : Int32))).toUInt32.toUInt16.toUInt32.toInt32))).toInt - ((((c1 &&& (255 : Int32))).toUInt32.toUInt16.toUInt32.toInt32)).toInt) % 65536 = 0 ∧ 0 ≤ ((nar .char (((c1 &&& (255 : Int32))).toUInt32.toUInt16.toUInt32.toInt32))).toInt ∧ ((nar .char (((c1 &&& (255 : Int32))).toUInt32.toUInt16.toUInt32.toInt32))).toInt < 65536 := c_i2c (((c1 &&& (255 : Int32))).toUInt32.toUInt16.toUInt32.toInt32)
            have r13 := rng32 c2
            have e12 : ((c2 &&& (255 : Int32))).toInt = (c2).toInt % 256 := c_mask c2 (255 : Int32) 8 (by decide) (by decide)
            have e11 := c_i2c (c2 &&& (255 : Int32))
            have e10 : (((nar .char (((c2 &&& (255 : Int32))).toUInt32.toUInt16.toUInt32.toInt32))).toInt - ((((c2 &&& (255 : Int32))).toUInt32.toUInt16.toUInt32.toInt32)).toInt) % 65536 = 0 ∧ 0 ≤ ((nar .char (((c2 &&& (255 : Int32))).toUInt32.toUInt16.toUInt32.toInt32))).toInt ∧ ((nar .char (((c2 &&& (255 : Int32))).toUInt32.toUInt16.toUInt32.toInt32))).toInt < 65536 := c_i2c (((c2 &&& (255 : Int32))).toUInt32.toUInt16.toUInt32.toInt32)
            have r14 := rng32 a
            have e15 : (200 : Int32).toInt = 200 := rfl
            have e16 : (204 : Int32).toInt = 204 := rfl
            have e18 := c_i2l a
            have e19 : (200 : Int64).toInt = 200 := rfl
            have e17 := c_lsub ((a).toInt64) (200 : Int64)
            have r17 := rng64 (((a).toInt64) - (200 : Int64))
            have e20 : (0 : Int64).toInt = 0 := rfl
            have e21 : (4 : Int64).toInt = 4 := rfl
            have e22 : (201 : Int32).toInt = 201 := rfl
            have e23 : (1 : Int32).toInt = 1 := rfl
            omega
          · refine G.cast (st' := [(.int (1 : Int32)), (.int (0 : Int32))]) ?_ rfl
            refine g_icmp_ne cx d0_130 (fun hc130 => ?_) (fun q => absurd q (fun q => by revert q; decide))
            refine g_iconst cx d0_144 (v := (0 : Int32)) rfl ?_
            refine g_retZ cx d0_145 rfl rfl (by decide) (by decide) ?_
            exfalso
            have i_hc3 : ((sel &&& (1 : Int32))).toInt = ((0 : Int32)).toInt := congrArg Int32.toInt hc3
            have i_hq33 : ¬ (cs).toInt = ((0 : Int32)).toInt := fun z => hq33 (Int32.toInt_inj.mp z)
            have i_hq34 : ¬ ((255 : Int32)).toInt < ((nar .char (((c1 &&& (255 : Int32))).toUInt32.toUInt16.toUInt32.toInt32))).toInt := fun z => hq34 (Int32.lt_iff_toInt_lt.mpr z)
            have i_hq47 : ¬ (cs).toInt = ((0 : Int32)).toInt := fun z => hq47 (Int32.toInt_inj.mp z)
            have i_hq48 : ¬ ((255 : Int32)).toInt < ((nar .char (((c2 &&& (255 : Int32))).toUInt32.toUInt16.toUInt32.toInt32))).toInt := fun z => hq48 (Int32.lt_iff_toInt_lt.mpr z)
            have i_hq59 : ¬ (a).toInt < ((200 : Int32)).toInt := fun z => hq59 (Int32.lt_iff_toInt_lt.mpr z)
            have i_hq60 : ((204 : Int32)).toInt < (a).toInt := Int32.lt_iff_toInt_lt.mp hq60
            have i_hc104 : ¬ ((((a).toInt64) - (200 : Int64))).toInt < ((0 : Int64)).toInt := fun z => hc104 (Int64.lt_iff_toInt_lt.mpr z)
            have i_hc113 : ((4 : Int64)).toInt < ((((a).toInt64) - (200 : Int64))).toInt := Int64.lt_iff_toInt_lt.mp hc113
            have i_hq189 : ¬ (a).toInt = ((200 : Int32)).toInt := fun z => hq189 (Int32.toInt_inj.mp z)
            have i_hq190 : ¬ (a).toInt = ((201 : Int32)).toInt := fun z => hq190 (Int32.toInt_inj.mp z)
            have i_hq191 : (a).toInt = ((202 : Int32)).toInt := congrArg Int32.toInt hq191
            have i_hc130 : ¬ ((0 : Int32)).toInt = ((1 : Int32)).toInt := fun z => hc130 (Int32.toInt_inj.mp z)
            have r2 := rng32 sel
            have e1 : ((sel &&& (1 : Int32))).toInt = (sel).toInt % 2 := c_mask sel (1 : Int32) 1 (by decide) (by decide)
            have e3 : (0 : Int32).toInt = 0 := rfl
            have r4 := rng32 cs
            have e5 : (255 : Int32).toInt = 255 := rfl
            have r9 := rng32 c1
            have e8 : ((c1 &&& (255 : Int32))).toInt = (c1).toInt % 256 := c_mask c1 (255 : Int32) 8 (by decide) (by decide)
            have e7 := c_i2c (c1 &&& (255 : Int32))
            have e6 : (((nar .char (((c1 &&& (255 : Int32))).toUInt32.toUInt16.toUInt32.toInt32))).toInt - ((((c1 &&& (255 : Int32))).toUInt32.toUInt16.toUInt32.toInt32)).toInt) % 65536 = 0 ∧ 0 ≤ ((nar .char (((c1 &&& (255 : Int32))).toUInt32.toUInt16.toUInt32.toInt32))).toInt ∧ ((nar .char (((c1 &&& (255 : Int32))).toUInt32.toUInt16.toUInt32.toInt32))).toInt < 65536 := c_i2c (((c1 &&& (255 : Int32))).toUInt32.toUInt16.toUInt32.toInt32)
            have r13 := rng32 c2
            have e12 : ((c2 &&& (255 : Int32))).toInt = (c2).toInt % 256 := c_mask c2 (255 : Int32) 8 (by decide) (by decide)
            have e11 := c_i2c (c2 &&& (255 : Int32))
            have e10 : (((nar .char (((c2 &&& (255 : Int32))).toUInt32.toUInt16.toUInt32.toInt32))).toInt - ((((c2 &&& (255 : Int32))).toUInt32.toUInt16.toUInt32.toInt32)).toInt) % 65536 = 0 ∧ 0 ≤ ((nar .char (((c2 &&& (255 : Int32))).toUInt32.toUInt16.toUInt32.toInt32))).toInt ∧ ((nar .char (((c2 &&& (255 : Int32))).toUInt32.toUInt16.toUInt32.toInt32))).toInt < 65536 := c_i2c (((c2 &&& (255 : Int32))).toUInt32.toUInt16.toUInt32.toInt32)
            have r14 := rng32 a
            have e15 : (200 : Int32).toInt = 200 := rfl
            have e16 : (204 : Int32).toInt = 204 := rfl
            have e18 := c_i2l a
            have e19 : (200 : Int64).toInt = 200 := rfl
            have e17 := c_lsub ((a).toInt64) (200 : Int64)
            have r17 := rng64 (((a).toInt64) - (200 : Int64))
            have e20 : (0 : Int64).toInt = 0 := rfl
            have e21 : (4 : Int64).toInt = 4 := rfl
            have e22 : (201 : Int32).toInt = 201 := rfl
            have e23 : (202 : Int32).toInt = 202 := rfl
            have e24 : (1 : Int32).toInt = 1 := rfl
            omega
          · refine G.cast (st' := [(.int (1 : Int32)), (.int (0 : Int32))]) ?_ rfl
            refine g_icmp_ne cx d0_130 (fun hc130 => ?_) (fun q => absurd q (fun q => by revert q; decide))
            refine g_iconst cx d0_144 (v := (0 : Int32)) rfl ?_
            refine g_retZ cx d0_145 rfl rfl (by decide) (by decide) ?_
            exfalso
            have i_hc3 : ((sel &&& (1 : Int32))).toInt = ((0 : Int32)).toInt := congrArg Int32.toInt hc3
            have i_hq33 : ¬ (cs).toInt = ((0 : Int32)).toInt := fun z => hq33 (Int32.toInt_inj.mp z)
            have i_hq34 : ¬ ((255 : Int32)).toInt < ((nar .char (((c1 &&& (255 : Int32))).toUInt32.toUInt16.toUInt32.toInt32))).toInt := fun z => hq34 (Int32.lt_iff_toInt_lt.mpr z)
            have i_hq47 : ¬ (cs).toInt = ((0 : Int32)).toInt := fun z => hq47 (Int32.toInt_inj.mp z)
            have i_hq48 : ¬ ((255 : Int32)).toInt < ((nar .char (((c2 &&& (255 : Int32))).toUInt32.toUInt16.toUInt32.toInt32))).toInt := fun z => hq48 (Int32.lt_iff_toInt_lt.mpr z)
            have i_hq59 : ¬ (a).toInt < ((200 : Int32)).toInt := fun z => hq59 (Int32.lt_iff_toInt_lt.mpr z)
            have i_hq60 : ((204 : Int32)).toInt < (a).toInt := Int32.lt_iff_toInt_lt.mp hq60
            have i_hc104 : ¬ ((((a).toInt64) - (200 : Int64))).toInt < ((0 : Int64)).toInt := fun z => hc104 (Int64.lt_iff_toInt_lt.mpr z)
            have i_hc113 : ((4 : Int64)).toInt < ((((a).toInt64) - (200 : Int64))).toInt := Int64.lt_iff_toInt_lt.mp hc113
            have i_hq193 : ¬ (a).toInt = ((200 : Int32)).toInt := fun z => hq193 (Int32.toInt_inj.mp z)
            have i_hq194 : ¬ (a).toInt = ((201 : Int32)).toInt := fun z => hq194 (Int32.toInt_inj.mp z)
            have i_hq195 : ¬ (a).toInt = ((202 : Int32)).toInt := fun z => hq195 (Int32.toInt_inj.mp z)
            have i_hq196 : (a).toInt = ((203 : Int32)).toInt := congrArg Int32.toInt hq196
            have i_hc130 : ¬ ((0 : Int32)).toInt = ((1 : Int32)).toInt := fun z => hc130 (Int32.toInt_inj.mp z)
            have r2 := rng32 sel
            have e1 : ((sel &&& (1 : Int32))).toInt = (sel).toInt % 2 := c_mask sel (1 : Int32) 1 (by decide) (by decide)
            have e3 : (0 : Int32).toInt = 0 := rfl
            have r4 := rng32 cs
            have e5 : (255 : Int32).toInt = 255 := rfl
            have r9 := rng32 c1
            have e8 : ((c1 &&& (255 : Int32))).toInt = (c1).toInt % 256 := c_mask c1 (255 : Int32) 8 (by decide) (by decide)
            have e7 := c_i2c (c1 &&& (255 : Int32))
            have e6 : (((nar .char (((c1 &&& (255 : Int32))).toUInt32.toUInt16.toUInt32.toInt32))).toInt - ((((c1 &&& (255 : Int32))).toUInt32.toUInt16.toUInt32.toInt32)).toInt) % 65536 = 0 ∧ 0 ≤ ((nar .char (((c1 &&& (255 : Int32))).toUInt32.toUInt16.toUInt32.toInt32))).toInt ∧ ((nar .char (((c1 &&& (255 : Int32))).toUInt32.toUInt16.toUInt32.toInt32))).toInt < 65536 := c_i2c (((c1 &&& (255 : Int32))).toUInt32.toUInt16.toUInt32.toInt32)
            have r13 := rng32 c2
            have e12 : ((c2 &&& (255 : Int32))).toInt = (c2).toInt % 256 := c_mask c2 (255 : Int32) 8 (by decide) (by decide)
            have e11 := c_i2c (c2 &&& (255 : Int32))
            have e10 : (((nar .char (((c2 &&& (255 : Int32))).toUInt32.toUInt16.toUInt32.toInt32))).toInt - ((((c2 &&& (255 : Int32))).toUInt32.toUInt16.toUInt32.toInt32)).toInt) % 65536 = 0 ∧ 0 ≤ ((nar .char (((c2 &&& (255 : Int32))).toUInt32.toUInt16.toUInt32.toInt32))).toInt ∧ ((nar .char (((c2 &&& (255 : Int32))).toUInt32.toUInt16.toUInt32.toInt32))).toInt < 65536 := c_i2c (((c2 &&& (255 : Int32))).toUInt32.toUInt16.toUInt32.toInt32)
            have r14 := rng32 a
            have e15 : (200 : Int32).toInt = 200 := rfl
            have e16 : (204 : Int32).toInt = 204 := rfl
            have e18 := c_i2l a
            have e19 : (200 : Int64).toInt = 200 := rfl
            have e17 := c_lsub ((a).toInt64) (200 : Int64)
            have r17 := rng64 (((a).toInt64) - (200 : Int64))
            have e20 : (0 : Int64).toInt = 0 := rfl
            have e21 : (4 : Int64).toInt = 4 := rfl
            have e22 : (201 : Int32).toInt = 201 := rfl
            have e23 : (202 : Int32).toInt = 202 := rfl
            have e24 : (203 : Int32).toInt = 203 := rfl
            have e25 : (1 : Int32).toInt = 1 := rfl
            omega
          · refine G.cast (st' := [(.int (0 : Int32)), (.int (0 : Int32))]) ?_ rfl
            refine g_icmp_ne cx d0_130 (fun q => absurd q (fun q => by revert q; decide)) (fun hc130 => ?_)
            refine g_iload cx d0_133 rfl ?_
            refine g_iload cx d0_135 rfl ?_
            refine g_icmp_ne cx d0_137 (fun q => absurd q (fun q => by revert q; decide)) (fun hc137 => ?_)
            refine g_iconst cx d0_140 (v := (1 : Int32)) rfl ?_
            refine g_goto cx d0_141 ?_
            refine g_retZ cx d0_145 rfl rfl (by decide) (by decide) ?_
            rfl
          · refine G.cast (st' := [(.int (1 : Int32)), (.int (0 : Int32))]) ?_ rfl
            refine g_icmp_ne cx d0_130 (fun hc130 => ?_) (fun q => absurd q (fun q => by revert q; decide))
            refine g_iconst cx d0_144 (v := (0 : Int32)) rfl ?_
            refine g_retZ cx d0_145 rfl rfl (by decide) (by decide) ?_
            exfalso
            have i_hc3 : ((sel &&& (1 : Int32))).toInt = ((0 : Int32)).toInt := congrArg Int32.toInt hc3
            have i_hq33 : ¬ (cs).toInt = ((0 : Int32)).toInt := fun z => hq33 (Int32.toInt_inj.mp z)
            have i_hq34 : ¬ ((255 : Int32)).toInt < ((nar .char (((c1 &&& (255 : Int32))).toUInt32.toUInt16.toUInt32.toInt32))).toInt := fun z => hq34 (Int32.lt_iff_toInt_lt.mpr z)
            have i_hq47 : ¬ (cs).toInt = ((0 : Int32)).toInt := fun z => hq47 (Int32.toInt_inj.mp z)
            have i_hq48 : ¬ ((255 : Int32)).toInt < ((nar .char (((c2 &&& (255 : Int32))).toUInt32.toUInt16.toUInt32.toInt32))).toInt := fun z => hq48 (Int32.lt_iff_toInt_lt.mpr z)
            have i_hq59 : ¬ (a).toInt < ((200 : Int32)).toInt := fun z => hq59 (Int32.lt_iff_toInt_lt.mpr z)
            have i_hq60 : ((204 : Int32)).toInt < (a).toInt := Int32.lt_iff_toInt_lt.mp hq60
            have i_hc104 : ¬ ((((a).toInt64) - (200 : Int64))).toInt < ((0 : Int64)).toInt := fun z => hc104 (Int64.lt_iff_toInt_lt.mpr z)
            have i_hc113 : ((4 : Int64)).toInt < ((((a).toInt64) - (200 : Int64))).toInt := Int64.lt_iff_toInt_lt.mp hc113
            have i_hq204 : ¬ (a).toInt = ((200 : Int32)).toInt := fun z => hq204 (Int32.toInt_inj.mp z)
            have i_hq205 : ¬ (a).toInt = ((201 : Int32)).toInt := fun z => hq205 (Int32.toInt_inj.mp z)
            have i_hq206 : ¬ (a).toInt = ((202 : Int32)).toInt := fun z => hq206 (Int32.toInt_inj.mp z)
            have i_hq207 : ¬ (a).toInt = ((203 : Int32)).toInt := fun z => hq207 (Int32.toInt_inj.mp z)
            have i_hq208 : (a).toInt = ((204 : Int32)).toInt := congrArg Int32.toInt hq208
            have i_hc130 : ¬ ((0 : Int32)).toInt = ((1 : Int32)).toInt := fun z => hc130 (Int32.toInt_inj.mp z)
            have r2 := rng32 sel
            have e1 : ((sel &&& (1 : Int32))).toInt = (sel).toInt % 2 := c_mask sel (1 : Int32) 1 (by decide) (by decide)
            have e3 : (0 : Int32).toInt = 0 := rfl
            have r4 := rng32 cs
            have e5 : (255 : Int32).toInt = 255 := rfl
            have r9 := rng32 c1
            have e8 : ((c1 &&& (255 : Int32))).toInt = (c1).toInt % 256 := c_mask c1 (255 : Int32) 8 (by decide) (by decide)
            have e7 := c_i2c (c1 &&& (255 : Int32))
            have e6 : (((nar .char (((c1 &&& (255 : Int32))).toUInt32.toUInt16.toUInt32.toInt32))).toInt - ((((c1 &&& (255 : Int32))).toUInt32.toUInt16.toUInt32.toInt32)).toInt) % 65536 = 0 ∧ 0 ≤ ((nar .char (((c1 &&& (255 : Int32))).toUInt32.toUInt16.toUInt32.toInt32))).toInt ∧ ((nar .char (((c1 &&& (255 : Int32))).toUInt32.toUInt16.toUInt32.toInt32))).toInt < 65536 := c_i2c (((c1 &&& (255 : Int32))).toUInt32.toUInt16.toUInt32.toInt32)
            have r13 := rng32 c2
            have e12 : ((c2 &&& (255 : Int32))).toInt = (c2).toInt % 256 := c_mask c2 (255 : Int32) 8 (by decide) (by decide)
            have e11 := c_i2c (c2 &&& (255 : Int32))
            have e10 : (((nar .char (((c2 &&& (255 : Int32))).toUInt32.toUInt16.toUInt32.toInt32))).toInt - ((((c2 &&& (255 : Int32))).toUInt32.toUInt16.toUInt32.toInt32)).toInt) % 65536 = 0 ∧ 0 ≤ ((nar .char (((c2 &&& (255 : Int32))).toUInt32.toUInt16.toUInt32.toInt32))).toInt ∧ ((nar .char (((c2 &&& (255 : Int32))).toUInt32.toUInt16.toUInt32.toInt32))).toInt < 65536 := c_i2c (((c2 &&& (255 : Int32))).toUInt32.toUInt16.toUInt32.toInt32)
            have r14 := rng32 a
            have e15 : (200 : Int32).toInt = 200 := rfl
            have e16 : (204 : Int32).toInt = 204 := rfl
            have e18 := c_i2l a
            have e19 : (200 : Int64).toInt = 200 := rfl
            have e17 := c_lsub ((a).toInt64) (200 : Int64)
            have r17 := rng64 (((a).toInt64) - (200 : Int64))
            have e20 : (0 : Int64).toInt = 0 := rfl
            have e21 : (4 : Int64).toInt = 4 := rfl
            have e22 : (201 : Int32).toInt = 201 := rfl
            have e23 : (202 : Int32).toInt = 202 := rfl
            have e24 : (203 : Int32).toInt = 203 := rfl
            have e25 : (1 : Int32).toInt = 1 := rfl
            omega
        · refine g_iconst cx d0_116 (v := (1 : Int32)) rfl ?_
          refine g_goto cx d0_117 ?_
          refine g_istore cx d0_121 (Ls' := #[.val (.int a), .val (.int sel), .val (.int c1), .val (.int c2), .val (.int a), .val (.ref b2), .val (.ref b11), .val (.ref b20), .val (.int (0 : Int32)), .val (.long (((a).toInt64) - (200 : Int64))), .second, .val (.int (1 : Int32))]) rfl ?_
          refine g_iload cx d0_123 rfl ?_
          refine g_iload cx d0_125 rfl ?_
          refine g_static cx (y := (⟨"com/example/egret/egret/service/OutcomeDeliveredPinLaw", "isSuccessStatus", "(I)Z"⟩ : MethodName)) d0_127 (hw _ (List.mem_of_getElem? (i := 55) rfl)) (hw _ (List.mem_of_getElem? (i := 56) rfl)) (hw _ (List.mem_of_getElem? (i := 57) rfl)) (hw _ (List.mem_of_getElem? (i := 58) rfl)) (by decide) (bytes := method_2_code) (maxL' := 1) (M := (ra8 l Z a0 hw a _  OL cs SCS ncs)) rfl (lenOf pd_8 rfl) (by decide) (W := 1) (Nat.le_of_eq rfl) (by decide) (k' := 7) (n' := 15) rfl rfl (by decide) (by decide) (argsL := [(.int a)]) (rest := [(.int (0 : Int32))]) rfl (fun v240 h239 q241 => ?_)
          rcases q241 with ⟨hq213, rfl, rfl⟩ | ⟨hq215, hq216, rfl, rfl⟩ | ⟨hq218, hq219, hq220, rfl, rfl⟩ | ⟨hq222, hq223, hq224, hq225, rfl, rfl⟩ | ⟨hq227, hq228, hq229, hq230, hq231, rfl, rfl⟩ | ⟨hq233, hq234, hq235, hq236, hq237, rfl, rfl⟩
          · refine G.cast (st' := [(.int (1 : Int32)), (.int (0 : Int32))]) ?_ rfl
            refine g_icmp_ne cx d0_130 (fun hc130 => ?_) (fun q => absurd q (fun q => by revert q; decide))
            refine g_iconst cx d0_144 (v := (0 : Int32)) rfl ?_
            refine g_retZ cx d0_145 rfl rfl (by decide) (by decide) ?_
            exfalso
            have i_hc3 : ((sel &&& (1 : Int32))).toInt = ((0 : Int32)).toInt := congrArg Int32.toInt hc3
            have i_hq33 : ¬ (cs).toInt = ((0 : Int32)).toInt := fun z => hq33 (Int32.toInt_inj.mp z)
            have i_hq34 : ¬ ((255 : Int32)).toInt < ((nar .char (((c1 &&& (255 : Int32))).toUInt32.toUInt16.toUInt32.toInt32))).toInt := fun z => hq34 (Int32.lt_iff_toInt_lt.mpr z)
            have i_hq47 : ¬ (cs).toInt = ((0 : Int32)).toInt := fun z => hq47 (Int32.toInt_inj.mp z)
            have i_hq48 : ¬ ((255 : Int32)).toInt < ((nar .char (((c2 &&& (255 : Int32))).toUInt32.toUInt16.toUInt32.toInt32))).toInt := fun z => hq48 (Int32.lt_iff_toInt_lt.mpr z)
            have i_hq59 : ¬ (a).toInt < ((200 : Int32)).toInt := fun z => hq59 (Int32.lt_iff_toInt_lt.mpr z)
            have i_hq60 : ((204 : Int32)).toInt < (a).toInt := Int32.lt_iff_toInt_lt.mp hq60
            have i_hc104 : ¬ ((((a).toInt64) - (200 : Int64))).toInt < ((0 : Int64)).toInt := fun z => hc104 (Int64.lt_iff_toInt_lt.mpr z)
            have i_hc113 : ¬ ((4 : Int64)).toInt < ((((a).toInt64) - (200 : Int64))).toInt := fun z => hc113 (Int64.lt_iff_toInt_lt.mpr z)
            have i_hq213 : (a).toInt = ((200 : Int32)).toInt := congrArg Int32.toInt hq213
            have i_hc130 : ¬ ((0 : Int32)).toInt = ((1 : Int32)).toInt := fun z => hc130 (Int32.toInt_inj.mp z)
            have r2 := rng32 sel
            have e1 : ((sel &&& (1 : Int32))).toInt = (sel).toInt % 2 := c_mask sel (1 : Int32) 1 (by decide) (by decide)
            have e3 : (0 : Int32).toInt = 0 := rfl
            have r4 := rng32 cs
            have e5 : (255 : Int32).toInt = 255 := rfl
            have r9 := rng32 c1
            have e8 : ((c1 &&& (255 : Int32))).toInt = (c1).toInt % 256 := c_mask c1 (255 : Int32) 8 (by decide) (by decide)
            have e7 := c_i2c (c1 &&& (255 : Int32))
            have e6 : (((nar .char (((c1 &&& (255 : Int32))).toUInt32.toUInt16.toUInt32.toInt32))).toInt - ((((c1 &&& (255 : Int32))).toUInt32.toUInt16.toUInt32.toInt32)).toInt) % 65536 = 0 ∧ 0 ≤ ((nar .char (((c1 &&& (255 : Int32))).toUInt32.toUInt16.toUInt32.toInt32))).toInt ∧ ((nar .char (((c1 &&& (255 : Int32))).toUInt32.toUInt16.toUInt32.toInt32))).toInt < 65536 := c_i2c (((c1 &&& (255 : Int32))).toUInt32.toUInt16.toUInt32.toInt32)
            have r13 := rng32 c2
            have e12 : ((c2 &&& (255 : Int32))).toInt = (c2).toInt % 256 := c_mask c2 (255 : Int32) 8 (by decide) (by decide)
            have e11 := c_i2c (c2 &&& (255 : Int32))
            have e10 : (((nar .char (((c2 &&& (255 : Int32))).toUInt32.toUInt16.toUInt32.toInt32))).toInt - ((((c2 &&& (255 : Int32))).toUInt32.toUInt16.toUInt32.toInt32)).toInt) % 65536 = 0 ∧ 0 ≤ ((nar .char (((c2 &&& (255 : Int32))).toUInt32.toUInt16.toUInt32.toInt32))).toInt ∧ ((nar .char (((c2 &&& (255 : Int32))).toUInt32.toUInt16.toUInt32.toInt32))).toInt < 65536 := c_i2c (((c2 &&& (255 : Int32))).toUInt32.toUInt16.toUInt32.toInt32)
            have r14 := rng32 a
            have e15 : (200 : Int32).toInt = 200 := rfl
            have e16 : (204 : Int32).toInt = 204 := rfl
            have e18 := c_i2l a
            have e19 : (200 : Int64).toInt = 200 := rfl
            have e17 := c_lsub ((a).toInt64) (200 : Int64)
            have r17 := rng64 (((a).toInt64) - (200 : Int64))
            have e20 : (0 : Int64).toInt = 0 := rfl
            have e21 : (4 : Int64).toInt = 4 := rfl
            have e22 : (1 : Int32).toInt = 1 := rfl
            omega
          · refine G.cast (st' := [(.int (1 : Int32)), (.int (0 : Int32))]) ?_ rfl
            refine g_icmp_ne cx d0_130 (fun hc130 => ?_) (fun q => absurd q (fun q => by revert q; decide))
            refine g_iconst cx d0_144 (v := (0 : Int32)) rfl ?_
            refine g_retZ cx d0_145 rfl rfl (by decide) (by decide) ?_
            exfalso
            have i_hc3 : ((sel &&& (1 : Int32))).toInt = ((0 : Int32)).toInt := congrArg Int32.toInt hc3
            have i_hq33 : ¬ (cs).toInt = ((0 : Int32)).toInt := fun z => hq33 (Int32.toInt_inj.mp z)
            have i_hq34 : ¬ ((255 : Int32)).toInt < ((nar .char (((c1 &&& (255 : Int32))).toUInt32.toUInt16.toUInt32.toInt32))).toInt := fun z => hq34 (Int32.lt_iff_toInt_lt.mpr z)
            have i_hq47 : ¬ (cs).toInt = ((0 : Int32)).toInt := fun z => hq47 (Int32.toInt_inj.mp z)
            have i_hq48 : ¬ ((255 : Int32)).toInt < ((nar .char (((c2 &&& (255 : Int32))).toUInt32.toUInt16.toUInt32.toInt32))).toInt := fun z => hq48 (Int32.lt_iff_toInt_lt.mpr z)
            have i_hq59 : ¬ (a).toInt < ((200 : Int32)).toInt := fun z => hq59 (Int32.lt_iff_toInt_lt.mpr z)
            have i_hq60 : ((204 : Int32)).toInt < (a).toInt := Int32.lt_iff_toInt_lt.mp hq60
            have i_hc104 : ¬ ((((a).toInt64) - (200 : Int64))).toInt < ((0 : Int64)).toInt := fun z => hc104 (Int64.lt_iff_toInt_lt.mpr z)
            have i_hc113 : ¬ ((4 : Int64)).toInt < ((((a).toInt64) - (200 : Int64))).toInt := fun z => hc113 (Int64.lt_iff_toInt_lt.mpr z)
            have i_hq215 : ¬ (a).toInt = ((200 : Int32)).toInt := fun z => hq215 (Int32.toInt_inj.mp z)
            have i_hq216 : (a).toInt = ((201 : Int32)).toInt := congrArg Int32.toInt hq216
            have i_hc130 : ¬ ((0 : Int32)).toInt = ((1 : Int32)).toInt := fun z => hc130 (Int32.toInt_inj.mp z)
            have r2 := rng32 sel
            have e1 : ((sel &&& (1 : Int32))).toInt = (sel).toInt % 2 := c_mask sel (1 : Int32) 1 (by decide) (by decide)
            have e3 : (0 : Int32).toInt = 0 := rfl
            have r4 := rng32 cs
            have e5 : (255 : Int32).toInt = 255 := rfl
            have r9 := rng32 c1
            have e8 : ((c1 &&& (255 : Int32))).toInt = (c1).toInt % 256 := c_mask c1 (255 : Int32) 8 (by decide) (by decide)
            have e7 := c_i2c (c1 &&& (255 : Int32))
            have e6 : (((nar .char (((c1 &&& (255 : Int32))).toUInt32.toUInt16.toUInt32.toInt32))).toInt - ((((c1 &&& (255 : Int32))).toUInt32.toUInt16.toUInt32.toInt32)).toInt) % 65536 = 0 ∧ 0 ≤ ((nar .char (((c1 &&& (255 : Int32))).toUInt32.toUInt16.toUInt32.toInt32))).toInt ∧ ((nar .char (((c1 &&& (255 : Int32))).toUInt32.toUInt16.toUInt32.toInt32))).toInt < 65536 := c_i2c (((c1 &&& (255 : Int32))).toUInt32.toUInt16.toUInt32.toInt32)
            have r13 := rng32 c2
            have e12 : ((c2 &&& (255 : Int32))).toInt = (c2).toInt % 256 := c_mask c2 (255 : Int32) 8 (by decide) (by decide)
            have e11 := c_i2c (c2 &&& (255 : Int32))
            have e10 : (((nar .char (((c2 &&& (255 : Int32))).toUInt32.toUInt16.toUInt32.toInt32))).toInt - ((((c2 &&& (255 : Int32))).toUInt32.toUInt16.toUInt32.toInt32)).toInt) % 65536 = 0 ∧ 0 ≤ ((nar .char (((c2 &&& (255 : Int32))).toUInt32.toUInt16.toUInt32.toInt32))).toInt ∧ ((nar .char (((c2 &&& (255 : Int32))).toUInt32.toUInt16.toUInt32.toInt32))).toInt < 65536 := c_i2c (((c2 &&& (255 : Int32))).toUInt32.toUInt16.toUInt32.toInt32)
            have r14 := rng32 a
            have e15 : (200 : Int32).toInt = 200 := rfl
            have e16 : (204 : Int32).toInt = 204 := rfl
            have e18 := c_i2l a
            have e19 : (200 : Int64).toInt = 200 := rfl
            have e17 := c_lsub ((a).toInt64) (200 : Int64)
            have r17 := rng64 (((a).toInt64) - (200 : Int64))
            have e20 : (0 : Int64).toInt = 0 := rfl
            have e21 : (4 : Int64).toInt = 4 := rfl
            have e22 : (201 : Int32).toInt = 201 := rfl
            have e23 : (1 : Int32).toInt = 1 := rfl
            omega
          · refine G.cast (st' := [(.int (1 : Int32)), (.int (0 : Int32))]) ?_ rfl
            refine g_icmp_ne cx d0_130 (fun hc130 => ?_) (fun q => absurd q (fun q => by revert q; decide))
            refine g_iconst cx d0_144 (v := (0 : Int32)) rfl ?_
            refine g_retZ cx d0_145 rfl rfl (by decide) (by decide) ?_
            exfalso
            have i_hc3 : ((sel &&& (1 : Int32))).toInt = ((0 : Int32)).toInt := congrArg Int32.toInt hc3
            have i_hq33 : ¬ (cs).toInt = ((0 : Int32)).toInt := fun z => hq33 (Int32.toInt_inj.mp z)
            have i_hq34 : ¬ ((255 : Int32)).toInt < ((nar .char (((c1 &&& (255 : Int32))).toUInt32.toUInt16.toUInt32.toInt32))).toInt := fun z => hq34 (Int32.lt_iff_toInt_lt.mpr z)
            have i_hq47 : ¬ (cs).toInt = ((0 : Int32)).toInt := fun z => hq47 (Int32.toInt_inj.mp z)
            have i_hq48 : ¬ ((255 : Int32)).toInt < ((nar .char (((c2 &&& (255 : Int32))).toUInt32.toUInt16.toUInt32.toInt32))).toInt := fun z => hq48 (Int32.lt_iff_toInt_lt.mpr z)
            have i_hq59 : ¬ (a).toInt < ((200 : Int32)).toInt := fun z => hq59 (Int32.lt_iff_toInt_lt.mpr z)
            have i_hq60 : ((204 : Int32)).toInt < (a).toInt := Int32.lt_iff_toInt_lt.mp hq60
            have i_hc104 : ¬ ((((a).toInt64) - (200 : Int64))).toInt < ((0 : Int64)).toInt := fun z => hc104 (Int64.lt_iff_toInt_lt.mpr z)
            have i_hc113 : ¬ ((4 : Int64)).toInt < ((((a).toInt64) - (200 : Int64))).toInt := fun z => hc113 (Int64.lt_iff_toInt_lt.mpr z)
            have i_hq218 : ¬ (a).toInt = ((200 : Int32)).toInt := fun z => hq218 (Int32.toInt_inj.mp z)
            have i_hq219 : ¬ (a).toInt = ((201 : Int32)).toInt := fun z => hq219 (Int32.toInt_inj.mp z)
            have i_hq220 : (a).toInt = ((202 : Int32)).toInt := congrArg Int32.toInt hq220
            have i_hc130 : ¬ ((0 : Int32)).toInt = ((1 : Int32)).toInt := fun z => hc130 (Int32.toInt_inj.mp z)
            have r2 := rng32 sel
            have e1 : ((sel &&& (1 : Int32))).toInt = (sel).toInt % 2 := c_mask sel (1 : Int32) 1 (by decide) (by decide)
            have e3 : (0 : Int32).toInt = 0 := rfl
            have r4 := rng32 cs
            have e5 : (255 : Int32).toInt = 255 := rfl
            have r9 := rng32 c1
            have e8 : ((c1 &&& (255 : Int32))).toInt = (c1).toInt % 256 := c_mask c1 (255 : Int32) 8 (by decide) (by decide)
            have e7 := c_i2c (c1 &&& (255 : Int32))
            have e6 : (((nar .char (((c1 &&& (255 : Int32))).toUInt32.toUInt16.toUInt32.toInt32))).toInt - ((((c1 &&& (255 : Int32))).toUInt32.toUInt16.toUInt32.toInt32)).toInt) % 65536 = 0 ∧ 0 ≤ ((nar .char (((c1 &&& (255 : Int32))).toUInt32.toUInt16.toUInt32.toInt32))).toInt ∧ ((nar .char (((c1 &&& (255 : Int32))).toUInt32.toUInt16.toUInt32.toInt32))).toInt < 65536 := c_i2c (((c1 &&& (255 : Int32))).toUInt32.toUInt16.toUInt32.toInt32)
            have r13 := rng32 c2
            have e12 : ((c2 &&& (255 : Int32))).toInt = (c2).toInt % 256 := c_mask c2 (255 : Int32) 8 (by decide) (by decide)
            have e11 := c_i2c (c2 &&& (255 : Int32))
            have e10 : (((nar .char (((c2 &&& (255 : Int32))).toUInt32.toUInt16.toUInt32.toInt32))).toInt - ((((c2 &&& (255 : Int32))).toUInt32.toUInt16.toUInt32.toInt32)).toInt) % 65536 = 0 ∧ 0 ≤ ((nar .char (((c2 &&& (255 : Int32))).toUInt32.toUInt16.toUInt32.toInt32))).toInt ∧ ((nar .char (((c2 &&& (255 : Int32))).toUInt32.toUInt16.toUInt32.toInt32))).toInt < 65536 := c_i2c (((c2 &&& (255 : Int32))).toUInt32.toUInt16.toUInt32.toInt32)
            have r14 := rng32 a
            have e15 : (200 : Int32).toInt = 200 := rfl
            have e16 : (204 : Int32).toInt = 204 := rfl
            have e18 := c_i2l a
            have e19 : (200 : Int64).toInt = 200 := rfl
            have e17 := c_lsub ((a).toInt64) (200 : Int64)
            have r17 := rng64 (((a).toInt64) - (200 : Int64))
            have e20 : (0 : Int64).toInt = 0 := rfl
            have e21 : (4 : Int64).toInt = 4 := rfl
            have e22 : (201 : Int32).toInt = 201 := rfl
            have e23 : (202 : Int32).toInt = 202 := rfl
            have e24 : (1 : Int32).toInt = 1 := rfl
            omega
          · refine G.cast (st' := [(.int (1 : Int32)), (.int (0 : Int32))]) ?_ rfl
            refine g_icmp_ne cx d0_130 (fun hc130 => ?_) (fun q => absurd q (fun q => by revert q; decide))
            refine g_iconst cx d0_144 (v := (0 : Int32)) rfl ?_
            refine g_retZ cx d0_145 rfl rfl (by decide) (by decide) ?_
            exfalso
            have i_hc3 : ((sel &&& (1 : Int32))).toInt = ((0 : Int32)).toInt := congrArg Int32.toInt hc3
            have i_hq33 : ¬ (cs).toInt = ((0 : Int32)).toInt := fun z => hq33 (Int32.toInt_inj.mp z)
            have i_hq34 : ¬ ((255 : Int32)).toInt < ((nar .char (((c1 &&& (255 : Int32))).toUInt32.toUInt16.toUInt32.toInt32))).toInt := fun z => hq34 (Int32.lt_iff_toInt_lt.mpr z)
            have i_hq47 : ¬ (cs).toInt = ((0 : Int32)).toInt := fun z => hq47 (Int32.toInt_inj.mp z)
            have i_hq48 : ¬ ((255 : Int32)).toInt < ((nar .char (((c2 &&& (255 : Int32))).toUInt32.toUInt16.toUInt32.toInt32))).toInt := fun z => hq48 (Int32.lt_iff_toInt_lt.mpr z)
            have i_hq59 : ¬ (a).toInt < ((200 : Int32)).toInt := fun z => hq59 (Int32.lt_iff_toInt_lt.mpr z)
            have i_hq60 : ((204 : Int32)).toInt < (a).toInt := Int32.lt_iff_toInt_lt.mp hq60
            have i_hc104 : ¬ ((((a).toInt64) - (200 : Int64))).toInt < ((0 : Int64)).toInt := fun z => hc104 (Int64.lt_iff_toInt_lt.mpr z)
            have i_hc113 : ¬ ((4 : Int64)).toInt < ((((a).toInt64) - (200 : Int64))).toInt := fun z => hc113 (Int64.lt_iff_toInt_lt.mpr z)
            have i_hq222 : ¬ (a).toInt = ((200 : Int32)).toInt := fun z => hq222 (Int32.toInt_inj.mp z)
            have i_hq223 : ¬ (a).toInt = ((201 : Int32)).toInt := fun z => hq223 (Int32.toInt_inj.mp z)
            have i_hq224 : ¬ (a).toInt = ((202 : Int32)).toInt := fun z => hq224 (Int32.toInt_inj.mp z)
            have i_hq225 : (a).toInt = ((203 : Int32)).toInt := congrArg Int32.toInt hq225
            have i_hc130 : ¬ ((0 : Int32)).toInt = ((1 : Int32)).toInt := fun z => hc130 (Int32.toInt_inj.mp z)
            have r2 := rng32 sel
            have e1 : ((sel &&& (1 : Int32))).toInt = (sel).toInt % 2 := c_mask sel (1 : Int32) 1 (by decide) (by decide)
            have e3 : (0 : Int32).toInt = 0 := rfl
            have r4 := rng32 cs
            have e5 : (255 : Int32).toInt = 255 := rfl
            have r9 := rng32 c1
            have e8 : ((c1 &&& (255 : Int32))).toInt = (c1).toInt % 256 := c_mask c1 (255 : Int32) 8 (by decide) (by decide)
            have e7 := c_i2c (c1 &&& (255 : Int32))
            have e6 : (((nar .char (((c1 &&& (255 : Int32))).toUInt32.toUInt16.toUInt32.toInt32))).toInt - ((((c1 &&& (255 : Int32))).toUInt32.toUInt16.toUInt32.toInt32)).toInt) % 65536 = 0 ∧ 0 ≤ ((nar .char (((c1 &&& (255 : Int32))).toUInt32.toUInt16.toUInt32.toInt32))).toInt ∧ ((nar .char (((c1 &&& (255 : Int32))).toUInt32.toUInt16.toUInt32.toInt32))).toInt < 65536 := c_i2c (((c1 &&& (255 : Int32))).toUInt32.toUInt16.toUInt32.toInt32)
            have r13 := rng32 c2
            have e12 : ((c2 &&& (255 : Int32))).toInt = (c2).toInt % 256 := c_mask c2 (255 : Int32) 8 (by decide) (by decide)
            have e11 := c_i2c (c2 &&& (255 : Int32))
            have e10 : (((nar .char (((c2 &&& (255 : Int32))).toUInt32.toUInt16.toUInt32.toInt32))).toInt - ((((c2 &&& (255 : Int32))).toUInt32.toUInt16.toUInt32.toInt32)).toInt) % 65536 = 0 ∧ 0 ≤ ((nar .char (((c2 &&& (255 : Int32))).toUInt32.toUInt16.toUInt32.toInt32))).toInt ∧ ((nar .char (((c2 &&& (255 : Int32))).toUInt32.toUInt16.toUInt32.toInt32))).toInt < 65536 := c_i2c (((c2 &&& (255 : Int32))).toUInt32.toUInt16.toUInt32.toInt32)
            have r14 := rng32 a
            have e15 : (200 : Int32).toInt = 200 := rfl
            have e16 : (204 : Int32).toInt = 204 := rfl
            have e18 := c_i2l a
            have e19 : (200 : Int64).toInt = 200 := rfl
            have e17 := c_lsub ((a).toInt64) (200 : Int64)
            have r17 := rng64 (((a).toInt64) - (200 : Int64))
            have e20 : (0 : Int64).toInt = 0 := rfl
            have e21 : (4 : Int64).toInt = 4 := rfl
            have e22 : (201 : Int32).toInt = 201 := rfl
            have e23 : (202 : Int32).toInt = 202 := rfl
            have e24 : (203 : Int32).toInt = 203 := rfl
            have e25 : (1 : Int32).toInt = 1 := rfl
            omega
          · refine G.cast (st' := [(.int (0 : Int32)), (.int (0 : Int32))]) ?_ rfl
            refine g_icmp_ne cx d0_130 (fun q => absurd q (fun q => by revert q; decide)) (fun hc130 => ?_)
            refine g_iload cx d0_133 rfl ?_
            refine g_iload cx d0_135 rfl ?_
            refine g_icmp_ne cx d0_137 (fun hc137 => ?_) (fun q => absurd q (fun q => by revert q; decide))
            refine g_iconst cx d0_144 (v := (0 : Int32)) rfl ?_
            refine g_retZ cx d0_145 rfl rfl (by decide) (by decide) ?_
            exfalso
            have i_hc3 : ((sel &&& (1 : Int32))).toInt = ((0 : Int32)).toInt := congrArg Int32.toInt hc3
            have i_hq33 : ¬ (cs).toInt = ((0 : Int32)).toInt := fun z => hq33 (Int32.toInt_inj.mp z)
            have i_hq34 : ¬ ((255 : Int32)).toInt < ((nar .char (((c1 &&& (255 : Int32))).toUInt32.toUInt16.toUInt32.toInt32))).toInt := fun z => hq34 (Int32.lt_iff_toInt_lt.mpr z)
            have i_hq47 : ¬ (cs).toInt = ((0 : Int32)).toInt := fun z => hq47 (Int32.toInt_inj.mp z)
            have i_hq48 : ¬ ((255 : Int32)).toInt < ((nar .char (((c2 &&& (255 : Int32))).toUInt32.toUInt16.toUInt32.toInt32))).toInt := fun z => hq48 (Int32.lt_iff_toInt_lt.mpr z)
            have i_hq59 : ¬ (a).toInt < ((200 : Int32)).toInt := fun z => hq59 (Int32.lt_iff_toInt_lt.mpr z)
            have i_hq60 : ((204 : Int32)).toInt < (a).toInt := Int32.lt_iff_toInt_lt.mp hq60
            have i_hc104 : ¬ ((((a).toInt64) - (200 : Int64))).toInt < ((0 : Int64)).toInt := fun z => hc104 (Int64.lt_iff_toInt_lt.mpr z)
            have i_hc113 : ¬ ((4 : Int64)).toInt < ((((a).toInt64) - (200 : Int64))).toInt := fun z => hc113 (Int64.lt_iff_toInt_lt.mpr z)
            have i_hq227 : ¬ (a).toInt = ((200 : Int32)).toInt := fun z => hq227 (Int32.toInt_inj.mp z)
            have i_hq228 : ¬ (a).toInt = ((201 : Int32)).toInt := fun z => hq228 (Int32.toInt_inj.mp z)
            have i_hq229 : ¬ (a).toInt = ((202 : Int32)).toInt := fun z => hq229 (Int32.toInt_inj.mp z)
            have i_hq230 : ¬ (a).toInt = ((203 : Int32)).toInt := fun z => hq230 (Int32.toInt_inj.mp z)
            have i_hq231 : ¬ (a).toInt = ((204 : Int32)).toInt := fun z => hq231 (Int32.toInt_inj.mp z)
            have i_hc130 : ((0 : Int32)).toInt = ((0 : Int32)).toInt := congrArg Int32.toInt hc130
            have i_hc137 : ¬ ((0 : Int32)).toInt = ((1 : Int32)).toInt := fun z => hc137 (Int32.toInt_inj.mp z)
            have r2 := rng32 sel
            have e1 : ((sel &&& (1 : Int32))).toInt = (sel).toInt % 2 := c_mask sel (1 : Int32) 1 (by decide) (by decide)
            have e3 : (0 : Int32).toInt = 0 := rfl
            have r4 := rng32 cs
            have e5 : (255 : Int32).toInt = 255 := rfl
            have r9 := rng32 c1
            have e8 : ((c1 &&& (255 : Int32))).toInt = (c1).toInt % 256 := c_mask c1 (255 : Int32) 8 (by decide) (by decide)
            have e7 := c_i2c (c1 &&& (255 : Int32))
            have e6 : (((nar .char (((c1 &&& (255 : Int32))).toUInt32.toUInt16.toUInt32.toInt32))).toInt - ((((c1 &&& (255 : Int32))).toUInt32.toUInt16.toUInt32.toInt32)).toInt) % 65536 = 0 ∧ 0 ≤ ((nar .char (((c1 &&& (255 : Int32))).toUInt32.toUInt16.toUInt32.toInt32))).toInt ∧ ((nar .char (((c1 &&& (255 : Int32))).toUInt32.toUInt16.toUInt32.toInt32))).toInt < 65536 := c_i2c (((c1 &&& (255 : Int32))).toUInt32.toUInt16.toUInt32.toInt32)
            have r13 := rng32 c2
            have e12 : ((c2 &&& (255 : Int32))).toInt = (c2).toInt % 256 := c_mask c2 (255 : Int32) 8 (by decide) (by decide)
            have e11 := c_i2c (c2 &&& (255 : Int32))
            have e10 : (((nar .char (((c2 &&& (255 : Int32))).toUInt32.toUInt16.toUInt32.toInt32))).toInt - ((((c2 &&& (255 : Int32))).toUInt32.toUInt16.toUInt32.toInt32)).toInt) % 65536 = 0 ∧ 0 ≤ ((nar .char (((c2 &&& (255 : Int32))).toUInt32.toUInt16.toUInt32.toInt32))).toInt ∧ ((nar .char (((c2 &&& (255 : Int32))).toUInt32.toUInt16.toUInt32.toInt32))).toInt < 65536 := c_i2c (((c2 &&& (255 : Int32))).toUInt32.toUInt16.toUInt32.toInt32)
            have r14 := rng32 a
            have e15 : (200 : Int32).toInt = 200 := rfl
            have e16 : (204 : Int32).toInt = 204 := rfl
            have e18 := c_i2l a
            have e19 : (200 : Int64).toInt = 200 := rfl
            have e17 := c_lsub ((a).toInt64) (200 : Int64)
            have r17 := rng64 (((a).toInt64) - (200 : Int64))
            have e20 : (0 : Int64).toInt = 0 := rfl
            have e21 : (4 : Int64).toInt = 4 := rfl
            have e22 : (201 : Int32).toInt = 201 := rfl
            have e23 : (202 : Int32).toInt = 202 := rfl
            have e24 : (203 : Int32).toInt = 203 := rfl
            have e25 : (1 : Int32).toInt = 1 := rfl
            omega
          · refine G.cast (st' := [(.int (1 : Int32)), (.int (0 : Int32))]) ?_ rfl
            refine g_icmp_ne cx d0_130 (fun hc130 => ?_) (fun q => absurd q (fun q => by revert q; decide))
            refine g_iconst cx d0_144 (v := (0 : Int32)) rfl ?_
            refine g_retZ cx d0_145 rfl rfl (by decide) (by decide) ?_
            exfalso
            have i_hc3 : ((sel &&& (1 : Int32))).toInt = ((0 : Int32)).toInt := congrArg Int32.toInt hc3
            have i_hq33 : ¬ (cs).toInt = ((0 : Int32)).toInt := fun z => hq33 (Int32.toInt_inj.mp z)
            have i_hq34 : ¬ ((255 : Int32)).toInt < ((nar .char (((c1 &&& (255 : Int32))).toUInt32.toUInt16.toUInt32.toInt32))).toInt := fun z => hq34 (Int32.lt_iff_toInt_lt.mpr z)
            have i_hq47 : ¬ (cs).toInt = ((0 : Int32)).toInt := fun z => hq47 (Int32.toInt_inj.mp z)
            have i_hq48 : ¬ ((255 : Int32)).toInt < ((nar .char (((c2 &&& (255 : Int32))).toUInt32.toUInt16.toUInt32.toInt32))).toInt := fun z => hq48 (Int32.lt_iff_toInt_lt.mpr z)
            have i_hq59 : ¬ (a).toInt < ((200 : Int32)).toInt := fun z => hq59 (Int32.lt_iff_toInt_lt.mpr z)
            have i_hq60 : ((204 : Int32)).toInt < (a).toInt := Int32.lt_iff_toInt_lt.mp hq60
            have i_hc104 : ¬ ((((a).toInt64) - (200 : Int64))).toInt < ((0 : Int64)).toInt := fun z => hc104 (Int64.lt_iff_toInt_lt.mpr z)
            have i_hc113 : ¬ ((4 : Int64)).toInt < ((((a).toInt64) - (200 : Int64))).toInt := fun z => hc113 (Int64.lt_iff_toInt_lt.mpr z)
            have i_hq233 : ¬ (a).toInt = ((200 : Int32)).toInt := fun z => hq233 (Int32.toInt_inj.mp z)
            have i_hq234 : ¬ (a).toInt = ((201 : Int32)).toInt := fun z => hq234 (Int32.toInt_inj.mp z)
            have i_hq235 : ¬ (a).toInt = ((202 : Int32)).toInt := fun z => hq235 (Int32.toInt_inj.mp z)
            have i_hq236 : ¬ (a).toInt = ((203 : Int32)).toInt := fun z => hq236 (Int32.toInt_inj.mp z)
            have i_hq237 : (a).toInt = ((204 : Int32)).toInt := congrArg Int32.toInt hq237
            have i_hc130 : ¬ ((0 : Int32)).toInt = ((1 : Int32)).toInt := fun z => hc130 (Int32.toInt_inj.mp z)
            have r2 := rng32 sel
            have e1 : ((sel &&& (1 : Int32))).toInt = (sel).toInt % 2 := c_mask sel (1 : Int32) 1 (by decide) (by decide)
            have e3 : (0 : Int32).toInt = 0 := rfl
            have r4 := rng32 cs
            have e5 : (255 : Int32).toInt = 255 := rfl
            have r9 := rng32 c1
            have e8 : ((c1 &&& (255 : Int32))).toInt = (c1).toInt % 256 := c_mask c1 (255 : Int32) 8 (by decide) (by decide)
            have e7 := c_i2c (c1 &&& (255 : Int32))
            have e6 : (((nar .char (((c1 &&& (255 : Int32))).toUInt32.toUInt16.toUInt32.toInt32))).toInt - ((((c1 &&& (255 : Int32))).toUInt32.toUInt16.toUInt32.toInt32)).toInt) % 65536 = 0 ∧ 0 ≤ ((nar .char (((c1 &&& (255 : Int32))).toUInt32.toUInt16.toUInt32.toInt32))).toInt ∧ ((nar .char (((c1 &&& (255 : Int32))).toUInt32.toUInt16.toUInt32.toInt32))).toInt < 65536 := c_i2c (((c1 &&& (255 : Int32))).toUInt32.toUInt16.toUInt32.toInt32)
            have r13 := rng32 c2
            have e12 : ((c2 &&& (255 : Int32))).toInt = (c2).toInt % 256 := c_mask c2 (255 : Int32) 8 (by decide) (by decide)
            have e11 := c_i2c (c2 &&& (255 : Int32))
            have e10 : (((nar .char (((c2 &&& (255 : Int32))).toUInt32.toUInt16.toUInt32.toInt32))).toInt - ((((c2 &&& (255 : Int32))).toUInt32.toUInt16.toUInt32.toInt32)).toInt) % 65536 = 0 ∧ 0 ≤ ((nar .char (((c2 &&& (255 : Int32))).toUInt32.toUInt16.toUInt32.toInt32))).toInt ∧ ((nar .char (((c2 &&& (255 : Int32))).toUInt32.toUInt16.toUInt32.toInt32))).toInt < 65536 := c_i2c (((c2 &&& (255 : Int32))).toUInt32.toUInt16.toUInt32.toInt32)
            have r14 := rng32 a
            have e15 : (200 : Int32).toInt = 200 := rfl
            have e16 : (204 : Int32).toInt = 204 := rfl
            have e18 := c_i2l a
            have e19 : (200 : Int64).toInt = 200 := rfl
            have e17 := c_lsub ((a).toInt64) (200 : Int64)
            have r17 := rng64 (((a).toInt64) - (200 : Int64))
            have e20 : (0 : Int64).toInt = 0 := rfl
            have e21 : (4 : Int64).toInt = 4 := rfl
            have e22 : (201 : Int32).toInt = 201 := rfl
            have e23 : (202 : Int32).toInt = 202 := rfl
            have e24 : (203 : Int32).toInt = 203 := rfl
            have e25 : (1 : Int32).toInt = 1 := rfl
            omega
    · refine G.cast (st' := [(.int (1 : Int32))]) ?_ rfl
      refine g_istore cx d0_89 (Ls' := #[.val (.int a), .val (.int sel), .val (.int c1), .val (.int c2), .val (.int a), .val (.ref b2), .val (.ref b11), .val (.ref b20), .val (.int (1 : Int32)), .unset, .unset, .unset]) rfl ?_
      refine g_iload cx d0_91 rfl ?_
      refine g_i2l cx d0_93 ?_
      refine g_ldcJ cx d0_94 (hw _ (List.mem_of_getElem? (i := 54) rfl)) ?_
      refine g_lsub cx d0_97 ?_
      refine g_lstore cx d0_98 (Ls' := #[.val (.int a), .val (.int sel), .val (.int c1), .val (.int c2), .val (.int a), .val (.ref b2), .val (.ref b11), .val (.ref b20), .val (.int (1 : Int32)), .val (.long (((a).toInt64) - (200 : Int64))), .second, .unset]) rfl ?_
      refine g_lload cx d0_100 rfl ?_
      refine g_lconst cx d0_102 (v := (0 : Int64)) rfl ?_
      refine g_lif_lt cx d0_103 d0_104 (fun hc104 => ?_) (fun hc104 => ?_)
      · refine g_iconst cx d0_120 (v := (0 : Int32)) rfl ?_
        refine g_istore cx d0_121 (Ls' := #[.val (.int a), .val (.int sel), .val (.int c1), .val (.int c2), .val (.int a), .val (.ref b2), .val (.ref b11), .val (.ref b20), .val (.int (1 : Int32)), .val (.long (((a).toInt64) - (200 : Int64))), .second, .val (.int (0 : Int32))]) rfl ?_
        refine g_iload cx d0_123 rfl ?_
        refine g_iload cx d0_125 rfl ?_
        refine g_static cx (y := (⟨"com/example/egret/egret/service/OutcomeDeliveredPinLaw", "isSuccessStatus", "(I)Z"⟩ : MethodName)) d0_127 (hw _ (List.mem_of_getElem? (i := 55) rfl)) (hw _ (List.mem_of_getElem? (i := 56) rfl)) (hw _ (List.mem_of_getElem? (i := 57) rfl)) (hw _ (List.mem_of_getElem? (i := 58) rfl)) (by decide) (bytes := method_2_code) (maxL' := 1) (M := (ra8 l Z a0 hw a _  OL cs SCS ncs)) rfl (lenOf pd_8 rfl) (by decide) (W := 1) (Nat.le_of_eq rfl) (by decide) (k' := 7) (n' := 15) rfl rfl (by decide) (by decide) (argsL := [(.int a)]) (rest := [(.int (1 : Int32))]) rfl (fun v269 h268 q270 => ?_)
        rcases q270 with ⟨hq242, rfl, rfl⟩ | ⟨hq244, hq245, rfl, rfl⟩ | ⟨hq247, hq248, hq249, rfl, rfl⟩ | ⟨hq251, hq252, hq253, hq254, rfl, rfl⟩ | ⟨hq256, hq257, hq258, hq259, hq260, rfl, rfl⟩ | ⟨hq262, hq263, hq264, hq265, hq266, rfl, rfl⟩
        · refine G.cast (st' := [(.int (1 : Int32)), (.int (1 : Int32))]) ?_ rfl
          refine g_icmp_ne cx d0_130 (fun q => absurd q (fun q => by revert q; decide)) (fun hc130 => ?_)
          refine g_iload cx d0_133 rfl ?_
          refine g_iload cx d0_135 rfl ?_
          refine g_icmp_ne cx d0_137 (fun hc137 => ?_) (fun q => absurd q (fun q => by revert q; decide))
          refine g_iconst cx d0_144 (v := (0 : Int32)) rfl ?_
          refine g_retZ cx d0_145 rfl rfl (by decide) (by decide) ?_
          exfalso
          have i_hc3 : ((sel &&& (1 : Int32))).toInt = ((0 : Int32)).toInt := congrArg Int32.toInt hc3
          have i_hq33 : ¬ (cs).toInt = ((0 : Int32)).toInt := fun z => hq33 (Int32.toInt_inj.mp z)
          have i_hq34 : ¬ ((255 : Int32)).toInt < ((nar .char (((c1 &&& (255 : Int32))).toUInt32.toUInt16.toUInt32.toInt32))).toInt := fun z => hq34 (Int32.lt_iff_toInt_lt.mpr z)
          have i_hq47 : ¬ (cs).toInt = ((0 : Int32)).toInt := fun z => hq47 (Int32.toInt_inj.mp z)
          have i_hq48 : ¬ ((255 : Int32)).toInt < ((nar .char (((c2 &&& (255 : Int32))).toUInt32.toUInt16.toUInt32.toInt32))).toInt := fun z => hq48 (Int32.lt_iff_toInt_lt.mpr z)
          have i_hq62 : ¬ (a).toInt < ((200 : Int32)).toInt := fun z => hq62 (Int32.lt_iff_toInt_lt.mpr z)
          have i_hq63 : ¬ ((204 : Int32)).toInt < (a).toInt := fun z => hq63 (Int32.lt_iff_toInt_lt.mpr z)
          have i_hc104 : ((((a).toInt64) - (200 : Int64))).toInt < ((0 : Int64)).toInt := Int64.lt_iff_toInt_lt.mp hc104
          have i_hq242 : (a).toInt = ((200 : Int32)).toInt := congrArg Int32.toInt hq242
          have i_hc130 : ((1 : Int32)).toInt = ((1 : Int32)).toInt := congrArg Int32.toInt hc130
          have i_hc137 : ¬ ((1 : Int32)).toInt = ((0 : Int32)).toInt := fun z => hc137 (Int32.toInt_inj.mp z)
          have r2 := rng32 sel
          have e1 : ((sel &&& (1 : Int32))).toInt = (sel).toInt % 2 := c_mask sel (1 : Int32) 1 (by decide) (by decide)
          have e3 : (0 : Int32).toInt = 0 := rfl
          have r4 := rng32 cs
          have e5 : (255 : Int32).toInt = 255 := rfl
          have r9 := rng32 c1
          have e8 : ((c1 &&& (255 : Int32))).toInt = (c1).toInt % 256 := c_mask c1 (255 : Int32) 8 (by decide) (by decide)
          have e7 := c_i2c (c1 &&& (255 : Int32))
          have e6 : (((nar .char (((c1 &&& (255 : Int32))).toUInt32.toUInt16.toUInt32.toInt32))).toInt - ((((c1 &&& (255 : Int32))).toUInt32.toUInt16.toUInt32.toInt32)).toInt) % 65536 = 0 ∧ 0 ≤ ((nar .char (((c1 &&& (255 : Int32))).toUInt32.toUInt16.toUInt32.toInt32))).toInt ∧ ((nar .char (((c1 &&& (255 : Int32))).toUInt32.toUInt16.toUInt32.toInt32))).toInt < 65536 := c_i2c (((c1 &&& (255 : Int32))).toUInt32.toUInt16.toUInt32.toInt32)
          have r13 := rng32 c2
          have e12 : ((c2 &&& (255 : Int32))).toInt = (c2).toInt % 256 := c_mask c2 (255 : Int32) 8 (by decide) (by decide)
          have e11 := c_i2c (c2 &&& (255 : Int32))
          have e10 : (((nar .char (((c2 &&& (255 : Int32))).toUInt32.toUInt16.toUInt32.toInt32))).toInt - ((((c2 &&& (255 : Int32))).toUInt32.toUInt16.toUInt32.toInt32)).toInt) % 65536 = 0 ∧ 0 ≤ ((nar .char (((c2 &&& (255 : Int32))).toUInt32.toUInt16.toUInt32.toInt32))).toInt ∧ ((nar .char (((c2 &&& (255 : Int32))).toUInt32.toUInt16.toUInt32.toInt32))).toInt < 65536 := c_i2c (((c2 &&& (255 : Int32))).toUInt32.toUInt16.toUInt32.toInt32)
          have r14 := rng32 a
          have e15 : (200 : Int32).toInt = 200 := rfl
          have e16 : (204 : Int32).toInt = 204 := rfl
          have e18 := c_i2l a
          have e19 : (200 : Int64).toInt = 200 := rfl
          have e17 := c_lsub ((a).toInt64) (200 : Int64)
          have r17 := rng64 (((a).toInt64) - (200 : Int64))
          have e20 : (0 : Int64).toInt = 0 := rfl
          have e21 : (1 : Int32).toInt = 1 := rfl
          omega
        · refine G.cast (st' := [(.int (1 : Int32)), (.int (1 : Int32))]) ?_ rfl
          refine g_icmp_ne cx d0_130 (fun q => absurd q (fun q => by revert q; decide)) (fun hc130 => ?_)
          refine g_iload cx d0_133 rfl ?_
          refine g_iload cx d0_135 rfl ?_
          refine g_icmp_ne cx d0_137 (fun hc137 => ?_) (fun q => absurd q (fun q => by revert q; decide))
          refine g_iconst cx d0_144 (v := (0 : Int32)) rfl ?_
          refine g_retZ cx d0_145 rfl rfl (by decide) (by decide) ?_
          exfalso
          have i_hc3 : ((sel &&& (1 : Int32))).toInt = ((0 : Int32)).toInt := congrArg Int32.toInt hc3
          have i_hq33 : ¬ (cs).toInt = ((0 : Int32)).toInt := fun z => hq33 (Int32.toInt_inj.mp z)
          have i_hq34 : ¬ ((255 : Int32)).toInt < ((nar .char (((c1 &&& (255 : Int32))).toUInt32.toUInt16.toUInt32.toInt32))).toInt := fun z => hq34 (Int32.lt_iff_toInt_lt.mpr z)
          have i_hq47 : ¬ (cs).toInt = ((0 : Int32)).toInt := fun z => hq47 (Int32.toInt_inj.mp z)
          have i_hq48 : ¬ ((255 : Int32)).toInt < ((nar .char (((c2 &&& (255 : Int32))).toUInt32.toUInt16.toUInt32.toInt32))).toInt := fun z => hq48 (Int32.lt_iff_toInt_lt.mpr z)
          have i_hq62 : ¬ (a).toInt < ((200 : Int32)).toInt := fun z => hq62 (Int32.lt_iff_toInt_lt.mpr z)
          have i_hq63 : ¬ ((204 : Int32)).toInt < (a).toInt := fun z => hq63 (Int32.lt_iff_toInt_lt.mpr z)
          have i_hc104 : ((((a).toInt64) - (200 : Int64))).toInt < ((0 : Int64)).toInt := Int64.lt_iff_toInt_lt.mp hc104
          have i_hq244 : ¬ (a).toInt = ((200 : Int32)).toInt := fun z => hq244 (Int32.toInt_inj.mp z)
          have i_hq245 : (a).toInt = ((201 : Int32)).toInt := congrArg Int32.toInt hq245
          have i_hc130 : ((1 : Int32)).toInt = ((1 : Int32)).toInt := congrArg Int32.toInt hc130
          have i_hc137 : ¬ ((1 : Int32)).toInt = ((0 : Int32)).toInt := fun z => hc137 (Int32.toInt_inj.mp z)
          have r2 := rng32 sel
          have e1 : ((sel &&& (1 : Int32))).toInt = (sel).toInt % 2 := c_mask sel (1 : Int32) 1 (by decide) (by decide)
          have e3 : (0 : Int32).toInt = 0 := rfl
          have r4 := rng32 cs
          have e5 : (255 : Int32).toInt = 255 := rfl
          have r9 := rng32 c1
          have e8 : ((c1 &&& (255 : Int32))).toInt = (c1).toInt % 256 := c_mask c1 (255 : Int32) 8 (by decide) (by decide)
          have e7 := c_i2c (c1 &&& (255 : Int32))
          have e6 : (((nar .char (((c1 &&& (255 : Int32))).toUInt32.toUInt16.toUInt32.toInt32))).toInt - ((((c1 &&& (255 : Int32))).toUInt32.toUInt16.toUInt32.toInt32)).toInt) % 65536 = 0 ∧ 0 ≤ ((nar .char (((c1 &&& (255 : Int32))).toUInt32.toUInt16.toUInt32.toInt32))).toInt ∧ ((nar .char (((c1 &&& (255 : Int32))).toUInt32.toUInt16.toUInt32.toInt32))).toInt < 65536 := c_i2c (((c1 &&& (255 : Int32))).toUInt32.toUInt16.toUInt32.toInt32)
          have r13 := rng32 c2
          have e12 : ((c2 &&& (255 : Int32))).toInt = (c2).toInt % 256 := c_mask c2 (255 : Int32) 8 (by decide) (by decide)
          have e11 := c_i2c (c2 &&& (255 : Int32))
          have e10 : (((nar .char (((c2 &&& (255 : Int32))).toUInt32.toUInt16.toUInt32.toInt32))).toInt - ((((c2 &&& (255 : Int32))).toUInt32.toUInt16.toUInt32.toInt32)).toInt) % 65536 = 0 ∧ 0 ≤ ((nar .char (((c2 &&& (255 : Int32))).toUInt32.toUInt16.toUInt32.toInt32))).toInt ∧ ((nar .char (((c2 &&& (255 : Int32))).toUInt32.toUInt16.toUInt32.toInt32))).toInt < 65536 := c_i2c (((c2 &&& (255 : Int32))).toUInt32.toUInt16.toUInt32.toInt32)
          have r14 := rng32 a
          have e15 : (200 : Int32).toInt = 200 := rfl
          have e16 : (204 : Int32).toInt = 204 := rfl
          have e18 := c_i2l a
          have e19 : (200 : Int64).toInt = 200 := rfl
          have e17 := c_lsub ((a).toInt64) (200 : Int64)
          have r17 := rng64 (((a).toInt64) - (200 : Int64))
          have e20 : (0 : Int64).toInt = 0 := rfl
          have e21 : (201 : Int32).toInt = 201 := rfl
          have e22 : (1 : Int32).toInt = 1 := rfl
          omega
        · refine G.cast (st' := [(.int (1 : Int32)), (.int (1 : Int32))]) ?_ rfl
          refine g_icmp_ne cx d0_130 (fun q => absurd q (fun q => by revert q; decide)) (fun hc130 => ?_)
          refine g_iload cx d0_133 rfl ?_
          refine g_iload cx d0_135 rfl ?_
          refine g_icmp_ne cx d0_137 (fun hc137 => ?_) (fun q => absurd q (fun q => by revert q; decide))
          refine g_iconst cx d0_144 (v := (0 : Int32)) rfl ?_
          refine g_retZ cx d0_145 rfl rfl (by decide) (by decide) ?_
          exfalso
          have i_hc3 : ((sel &&& (1 : Int32))).toInt = ((0 : Int32)).toInt := congrArg Int32.toInt hc3
          have i_hq33 : ¬ (cs).toInt = ((0 : Int32)).toInt := fun z => hq33 (Int32.toInt_inj.mp z)
          have i_hq34 : ¬ ((255 : Int32)).toInt < ((nar .char (((c1 &&& (255 : Int32))).toUInt32.toUInt16.toUInt32.toInt32))).toInt := fun z => hq34 (Int32.lt_iff_toInt_lt.mpr z)
          have i_hq47 : ¬ (cs).toInt = ((0 : Int32)).toInt := fun z => hq47 (Int32.toInt_inj.mp z)
          have i_hq48 : ¬ ((255 : Int32)).toInt < ((nar .char (((c2 &&& (255 : Int32))).toUInt32.toUInt16.toUInt32.toInt32))).toInt := fun z => hq48 (Int32.lt_iff_toInt_lt.mpr z)
          have i_hq62 : ¬ (a).toInt < ((200 : Int32)).toInt := fun z => hq62 (Int32.lt_iff_toInt_lt.mpr z)
          have i_hq63 : ¬ ((204 : Int32)).toInt < (a).toInt := fun z => hq63 (Int32.lt_iff_toInt_lt.mpr z)
          have i_hc104 : ((((a).toInt64) - (200 : Int64))).toInt < ((0 : Int64)).toInt := Int64.lt_iff_toInt_lt.mp hc104
          have i_hq247 : ¬ (a).toInt = ((200 : Int32)).toInt := fun z => hq247 (Int32.toInt_inj.mp z)
          have i_hq248 : ¬ (a).toInt = ((201 : Int32)).toInt := fun z => hq248 (Int32.toInt_inj.mp z)
          have i_hq249 : (a).toInt = ((202 : Int32)).toInt := congrArg Int32.toInt hq249
          have i_hc130 : ((1 : Int32)).toInt = ((1 : Int32)).toInt := congrArg Int32.toInt hc130
          have i_hc137 : ¬ ((1 : Int32)).toInt = ((0 : Int32)).toInt := fun z => hc137 (Int32.toInt_inj.mp z)
          have r2 := rng32 sel
          have e1 : ((sel &&& (1 : Int32))).toInt = (sel).toInt % 2 := c_mask sel (1 : Int32) 1 (by decide) (by decide)
          have e3 : (0 : Int32).toInt = 0 := rfl
          have r4 := rng32 cs
          have e5 : (255 : Int32).toInt = 255 := rfl
          have r9 := rng32 c1
          have e8 : ((c1 &&& (255 : Int32))).toInt = (c1).toInt % 256 := c_mask c1 (255 : Int32) 8 (by decide) (by decide)
          have e7 := c_i2c (c1 &&& (255 : Int32))
          have e6 : (((nar .char (((c1 &&& (255 : Int32))).toUInt32.toUInt16.toUInt32.toInt32))).toInt - ((((c1 &&& (255 : Int32))).toUInt32.toUInt16.toUInt32.toInt32)).toInt) % 65536 = 0 ∧ 0 ≤ ((nar .char (((c1 &&& (255 : Int32))).toUInt32.toUInt16.toUInt32.toInt32))).toInt ∧ ((nar .char (((c1 &&& (255 : Int32))).toUInt32.toUInt16.toUInt32.toInt32))).toInt < 65536 := c_i2c (((c1 &&& (255 : Int32))).toUInt32.toUInt16.toUInt32.toInt32)
          have r13 := rng32 c2
          have e12 : ((c2 &&& (255 : Int32))).toInt = (c2).toInt % 256 := c_mask c2 (255 : Int32) 8 (by decide) (by decide)
          have e11 := c_i2c (c2 &&& (255 : Int32))
          have e10 : (((nar .char (((c2 &&& (255 : Int32))).toUInt32.toUInt16.toUInt32.toInt32))).toInt - ((((c2 &&& (255 : Int32))).toUInt32.toUInt16.toUInt32.toInt32)).toInt) % 65536 = 0 ∧ 0 ≤ ((nar .char (((c2 &&& (255 : Int32))).toUInt32.toUInt16.toUInt32.toInt32))).toInt ∧ ((nar .char (((c2 &&& (255 : Int32))).toUInt32.toUInt16.toUInt32.toInt32))).toInt < 65536 := c_i2c (((c2 &&& (255 : Int32))).toUInt32.toUInt16.toUInt32.toInt32)
          have r14 := rng32 a
          have e15 : (200 : Int32).toInt = 200 := rfl
          have e16 : (204 : Int32).toInt = 204 := rfl
          have e18 := c_i2l a
          have e19 : (200 : Int64).toInt = 200 := rfl
          have e17 := c_lsub ((a).toInt64) (200 : Int64)
          have r17 := rng64 (((a).toInt64) - (200 : Int64))
          have e20 : (0 : Int64).toInt = 0 := rfl
          have e21 : (201 : Int32).toInt = 201 := rfl
          have e22 : (202 : Int32).toInt = 202 := rfl
          have e23 : (1 : Int32).toInt = 1 := rfl
          omega
        · refine G.cast (st' := [(.int (1 : Int32)), (.int (1 : Int32))]) ?_ rfl
          refine g_icmp_ne cx d0_130 (fun q => absurd q (fun q => by revert q; decide)) (fun hc130 => ?_)
          refine g_iload cx d0_133 rfl ?_
          refine g_iload cx d0_135 rfl ?_
          refine g_icmp_ne cx d0_137 (fun hc137 => ?_) (fun q => absurd q (fun q => by revert q; decide))
          refine g_iconst cx d0_144 (v := (0 : Int32)) rfl ?_
          refine g_retZ cx d0_145 rfl rfl (by decide) (by decide) ?_
          exfalso
          have i_hc3 : ((sel &&& (1 : Int32))).toInt = ((0 : Int32)).toInt := congrArg Int32.toInt hc3
          have i_hq33 : ¬ (cs).toInt = ((0 : Int32)).toInt := fun z => hq33 (Int32.toInt_inj.mp z)
          have i_hq34 : ¬ ((255 : Int32)).toInt < ((nar .char (((c1 &&& (255 : Int32))).toUInt32.toUInt16.toUInt32.toInt32))).toInt := fun z => hq34 (Int32.lt_iff_toInt_lt.mpr z)
          have i_hq47 : ¬ (cs).toInt = ((0 : Int32)).toInt := fun z => hq47 (Int32.toInt_inj.mp z)
          have i_hq48 : ¬ ((255 : Int32)).toInt < ((nar .char (((c2 &&& (255 : Int32))).toUInt32.toUInt16.toUInt32.toInt32))).toInt := fun z => hq48 (Int32.lt_iff_toInt_lt.mpr z)
          have i_hq62 : ¬ (a).toInt < ((200 : Int32)).toInt := fun z => hq62 (Int32.lt_iff_toInt_lt.mpr z)
          have i_hq63 : ¬ ((204 : Int32)).toInt < (a).toInt := fun z => hq63 (Int32.lt_iff_toInt_lt.mpr z)
          have i_hc104 : ((((a).toInt64) - (200 : Int64))).toInt < ((0 : Int64)).toInt := Int64.lt_iff_toInt_lt.mp hc104
          have i_hq251 : ¬ (a).toInt = ((200 : Int32)).toInt := fun z => hq251 (Int32.toInt_inj.mp z)
          have i_hq252 : ¬ (a).toInt = ((201 : Int32)).toInt := fun z => hq252 (Int32.toInt_inj.mp z)
          have i_hq253 : ¬ (a).toInt = ((202 : Int32)).toInt := fun z => hq253 (Int32.toInt_inj.mp z)
          have i_hq254 : (a).toInt = ((203 : Int32)).toInt := congrArg Int32.toInt hq254
          have i_hc130 : ((1 : Int32)).toInt = ((1 : Int32)).toInt := congrArg Int32.toInt hc130
          have i_hc137 : ¬ ((1 : Int32)).toInt = ((0 : Int32)).toInt := fun z => hc137 (Int32.toInt_inj.mp z)
          have r2 := rng32 sel
          have e1 : ((sel &&& (1 : Int32))).toInt = (sel).toInt % 2 := c_mask sel (1 : Int32) 1 (by decide) (by decide)
          have e3 : (0 : Int32).toInt = 0 := rfl
          have r4 := rng32 cs
          have e5 : (255 : Int32).toInt = 255 := rfl
          have r9 := rng32 c1
          have e8 : ((c1 &&& (255 : Int32))).toInt = (c1).toInt % 256 := c_mask c1 (255 : Int32) 8 (by decide) (by decide)
          have e7 := c_i2c (c1 &&& (255 : Int32))
          have e6 : (((nar .char (((c1 &&& (255 : Int32))).toUInt32.toUInt16.toUInt32.toInt32))).toInt - ((((c1 &&& (255 : Int32))).toUInt32.toUInt16.toUInt32.toInt32)).toInt) % 65536 = 0 ∧ 0 ≤ ((nar .char (((c1 &&& (255 : Int32))).toUInt32.toUInt16.toUInt32.toInt32))).toInt ∧ ((nar .char (((c1 &&& (255 : Int32))).toUInt32.toUInt16.toUInt32.toInt32))).toInt < 65536 := c_i2c (((c1 &&& (255 : Int32))).toUInt32.toUInt16.toUInt32.toInt32)
          have r13 := rng32 c2
          have e12 : ((c2 &&& (255 : Int32))).toInt = (c2).toInt % 256 := c_mask c2 (255 : Int32) 8 (by decide) (by decide)
          have e11 := c_i2c (c2 &&& (255 : Int32))
          have e10 : (((nar .char (((c2 &&& (255 : Int32))).toUInt32.toUInt16.toUInt32.toInt32))).toInt - ((((c2 &&& (255 : Int32))).toUInt32.toUInt16.toUInt32.toInt32)).toInt) % 65536 = 0 ∧ 0 ≤ ((nar .char (((c2 &&& (255 : Int32))).toUInt32.toUInt16.toUInt32.toInt32))).toInt ∧ ((nar .char (((c2 &&& (255 : Int32))).toUInt32.toUInt16.toUInt32.toInt32))).toInt < 65536 := c_i2c (((c2 &&& (255 : Int32))).toUInt32.toUInt16.toUInt32.toInt32)
          have r14 := rng32 a
          have e15 : (200 : Int32).toInt = 200 := rfl
          have e16 : (204 : Int32).toInt = 204 := rfl
          have e18 := c_i2l a
          have e19 : (200 : Int64).toInt = 200 := rfl
          have e17 := c_lsub ((a).toInt64) (200 : Int64)
          have r17 := rng64 (((a).toInt64) - (200 : Int64))
          have e20 : (0 : Int64).toInt = 0 := rfl
          have e21 : (201 : Int32).toInt = 201 := rfl
          have e22 : (202 : Int32).toInt = 202 := rfl
          have e23 : (203 : Int32).toInt = 203 := rfl
          have e24 : (1 : Int32).toInt = 1 := rfl
          omega
        · refine G.cast (st' := [(.int (0 : Int32)), (.int (1 : Int32))]) ?_ rfl
          refine g_icmp_ne cx d0_130 (fun hc130 => ?_) (fun q => absurd q (fun q => by revert q; decide))
          refine g_iconst cx d0_144 (v := (0 : Int32)) rfl ?_
          refine g_retZ cx d0_145 rfl rfl (by decide) (by decide) ?_
          exfalso
          have i_hc3 : ((sel &&& (1 : Int32))).toInt = ((0 : Int32)).toInt := congrArg Int32.toInt hc3
          have i_hq33 : ¬ (cs).toInt = ((0 : Int32)).toInt := fun z => hq33 (Int32.toInt_inj.mp z)
          have i_hq34 : ¬ ((255 : Int32)).toInt < ((nar .char (((c1 &&& (255 : Int32))).toUInt32.toUInt16.toUInt32.toInt32))).toInt := fun z => hq34 (Int32.lt_iff_toInt_lt.mpr z)
          have i_hq47 : ¬ (cs).toInt = ((0 : Int32)).toInt := fun z => hq47 (Int32.toInt_inj.mp z)
          have i_hq48 : ¬ ((255 : Int32)).toInt < ((nar .char (((c2 &&& (255 : Int32))).toUInt32.toUInt16.toUInt32.toInt32))).toInt := fun z => hq48 (Int32.lt_iff_toInt_lt.mpr z)
          have i_hq62 : ¬ (a).toInt < ((200 : Int32)).toInt := fun z => hq62 (Int32.lt_iff_toInt_lt.mpr z)
          have i_hq63 : ¬ ((204 : Int32)).toInt < (a).toInt := fun z => hq63 (Int32.lt_iff_toInt_lt.mpr z)
          have i_hc104 : ((((a).toInt64) - (200 : Int64))).toInt < ((0 : Int64)).toInt := Int64.lt_iff_toInt_lt.mp hc104
          have i_hq256 : ¬ (a).toInt = ((200 : Int32)).toInt := fun z => hq256 (Int32.toInt_inj.mp z)
          have i_hq257 : ¬ (a).toInt = ((201 : Int32)).toInt := fun z => hq257 (Int32.toInt_inj.mp z)
          have i_hq258 : ¬ (a).toInt = ((202 : Int32)).toInt := fun z => hq258 (Int32.toInt_inj.mp z)
          have i_hq259 : ¬ (a).toInt = ((203 : Int32)).toInt := fun z => hq259 (Int32.toInt_inj.mp z)
          have i_hq260 : ¬ (a).toInt = ((204 : Int32)).toInt := fun z => hq260 (Int32.toInt_inj.mp z)
          have i_hc130 : ¬ ((1 : Int32)).toInt = ((0 : Int32)).toInt := fun z => hc130 (Int32.toInt_inj.mp z)
          have r2 := rng32 sel
          have e1 : ((sel &&& (1 : Int32))).toInt = (sel).toInt % 2 := c_mask sel (1 : Int32) 1 (by decide) (by decide)
          have e3 : (0 : Int32).toInt = 0 := rfl
          have r4 := rng32 cs
          have e5 : (255 : Int32).toInt = 255 := rfl
          have r9 := rng32 c1
          have e8 : ((c1 &&& (255 : Int32))).toInt = (c1).toInt % 256 := c_mask c1 (255 : Int32) 8 (by decide) (by decide)
          have e7 := c_i2c (c1 &&& (255 : Int32))
          have e6 : (((nar .char (((c1 &&& (255 : Int32))).toUInt32.toUInt16.toUInt32.toInt32))).toInt - ((((c1 &&& (255 : Int32))).toUInt32.toUInt16.toUInt32.toInt32)).toInt) % 65536 = 0 ∧ 0 ≤ ((nar .char (((c1 &&& (255 : Int32))).toUInt32.toUInt16.toUInt32.toInt32))).toInt ∧ ((nar .char (((c1 &&& (255 : Int32))).toUInt32.toUInt16.toUInt32.toInt32))).toInt < 65536 := c_i2c (((c1 &&& (255 : Int32))).toUInt32.toUInt16.toUInt32.toInt32)
          have r13 := rng32 c2
          have e12 : ((c2 &&& (255 : Int32))).toInt = (c2).toInt % 256 := c_mask c2 (255 : Int32) 8 (by decide) (by decide)
          have e11 := c_i2c (c2 &&& (255 : Int32))
          have e10 : (((nar .char (((c2 &&& (255 : Int32))).toUInt32.toUInt16.toUInt32.toInt32))).toInt - ((((c2 &&& (255 : Int32))).toUInt32.toUInt16.toUInt32.toInt32)).toInt) % 65536 = 0 ∧ 0 ≤ ((nar .char (((c2 &&& (255 : Int32))).toUInt32.toUInt16.toUInt32.toInt32))).toInt ∧ ((nar .char (((c2 &&& (255 : Int32))).toUInt32.toUInt16.toUInt32.toInt32))).toInt < 65536 := c_i2c (((c2 &&& (255 : Int32))).toUInt32.toUInt16.toUInt32.toInt32)
          have r14 := rng32 a
          have e15 : (200 : Int32).toInt = 200 := rfl
          have e16 : (204 : Int32).toInt = 204 := rfl
          have e18 := c_i2l a
          have e19 : (200 : Int64).toInt = 200 := rfl
          have e17 := c_lsub ((a).toInt64) (200 : Int64)
          have r17 := rng64 (((a).toInt64) - (200 : Int64))
          have e20 : (0 : Int64).toInt = 0 := rfl
          have e21 : (201 : Int32).toInt = 201 := rfl
          have e22 : (202 : Int32).toInt = 202 := rfl
          have e23 : (203 : Int32).toInt = 203 := rfl
          have e24 : (1 : Int32).toInt = 1 := rfl
          omega
        · refine G.cast (st' := [(.int (1 : Int32)), (.int (1 : Int32))]) ?_ rfl
          refine g_icmp_ne cx d0_130 (fun q => absurd q (fun q => by revert q; decide)) (fun hc130 => ?_)
          refine g_iload cx d0_133 rfl ?_
          refine g_iload cx d0_135 rfl ?_
          refine g_icmp_ne cx d0_137 (fun hc137 => ?_) (fun q => absurd q (fun q => by revert q; decide))
          refine g_iconst cx d0_144 (v := (0 : Int32)) rfl ?_
          refine g_retZ cx d0_145 rfl rfl (by decide) (by decide) ?_
          exfalso
          have i_hc3 : ((sel &&& (1 : Int32))).toInt = ((0 : Int32)).toInt := congrArg Int32.toInt hc3
          have i_hq33 : ¬ (cs).toInt = ((0 : Int32)).toInt := fun z => hq33 (Int32.toInt_inj.mp z)
          have i_hq34 : ¬ ((255 : Int32)).toInt < ((nar .char (((c1 &&& (255 : Int32))).toUInt32.toUInt16.toUInt32.toInt32))).toInt := fun z => hq34 (Int32.lt_iff_toInt_lt.mpr z)
          have i_hq47 : ¬ (cs).toInt = ((0 : Int32)).toInt := fun z => hq47 (Int32.toInt_inj.mp z)
          have i_hq48 : ¬ ((255 : Int32)).toInt < ((nar .char (((c2 &&& (255 : Int32))).toUInt32.toUInt16.toUInt32.toInt32))).toInt := fun z => hq48 (Int32.lt_iff_toInt_lt.mpr z)
          have i_hq62 : ¬ (a).toInt < ((200 : Int32)).toInt := fun z => hq62 (Int32.lt_iff_toInt_lt.mpr z)
          have i_hq63 : ¬ ((204 : Int32)).toInt < (a).toInt := fun z => hq63 (Int32.lt_iff_toInt_lt.mpr z)
          have i_hc104 : ((((a).toInt64) - (200 : Int64))).toInt < ((0 : Int64)).toInt := Int64.lt_iff_toInt_lt.mp hc104
          have i_hq262 : ¬ (a).toInt = ((200 : Int32)).toInt := fun z => hq262 (Int32.toInt_inj.mp z)
          have i_hq263 : ¬ (a).toInt = ((201 : Int32)).toInt := fun z => hq263 (Int32.toInt_inj.mp z)
          have i_hq264 : ¬ (a).toInt = ((202 : Int32)).toInt := fun z => hq264 (Int32.toInt_inj.mp z)
          have i_hq265 : ¬ (a).toInt = ((203 : Int32)).toInt := fun z => hq265 (Int32.toInt_inj.mp z)
          have i_hq266 : (a).toInt = ((204 : Int32)).toInt := congrArg Int32.toInt hq266
          have i_hc130 : ((1 : Int32)).toInt = ((1 : Int32)).toInt := congrArg Int32.toInt hc130
          have i_hc137 : ¬ ((1 : Int32)).toInt = ((0 : Int32)).toInt := fun z => hc137 (Int32.toInt_inj.mp z)
          have r2 := rng32 sel
          have e1 : ((sel &&& (1 : Int32))).toInt = (sel).toInt % 2 := c_mask sel (1 : Int32) 1 (by decide) (by decide)
          have e3 : (0 : Int32).toInt = 0 := rfl
          have r4 := rng32 cs
          have e5 : (255 : Int32).toInt = 255 := rfl
          have r9 := rng32 c1
          have e8 : ((c1 &&& (255 : Int32))).toInt = (c1).toInt % 256 := c_mask c1 (255 : Int32) 8 (by decide) (by decide)
          have e7 := c_i2c (c1 &&& (255 : Int32))
          have e6 : (((nar .char (((c1 &&& (255 : Int32))).toUInt32.toUInt16.toUInt32.toInt32))).toInt - ((((c1 &&& (255 : Int32))).toUInt32.toUInt16.toUInt32.toInt32)).toInt) % 65536 = 0 ∧ 0 ≤ ((nar .char (((c1 &&& (255 : Int32))).toUInt32.toUInt16.toUInt32.toInt32))).toInt ∧ ((nar .char (((c1 &&& (255 : Int32))).toUInt32.toUInt16.toUInt32.toInt32))).toInt < 65536 := c_i2c (((c1 &&& (255 : Int32))).toUInt32.toUInt16.toUInt32.toInt32)
          have r13 := rng32 c2
          have e12 : ((c2 &&& (255 : Int32))).toInt = (c2).toInt % 256 := c_mask c2 (255 : Int32) 8 (by decide) (by decide)
          have e11 := c_i2c (c2 &&& (255 : Int32))
          have e10 : (((nar .char (((c2 &&& (255 : Int32))).toUInt32.toUInt16.toUInt32.toInt32))).toInt - ((((c2 &&& (255 : Int32))).toUInt32.toUInt16.toUInt32.toInt32)).toInt) % 65536 = 0 ∧ 0 ≤ ((nar .char (((c2 &&& (255 : Int32))).toUInt32.toUInt16.toUInt32.toInt32))).toInt ∧ ((nar .char (((c2 &&& (255 : Int32))).toUInt32.toUInt16.toUInt32.toInt32))).toInt < 65536 := c_i2c (((c2 &&& (255 : Int32))).toUInt32.toUInt16.toUInt32.toInt32)
          have r14 := rng32 a
          have e15 : (200 : Int32).toInt = 200 := rfl
          have e16 : (204 : Int32).toInt = 204 := rfl
          have e18 := c_i2l a
          have e19 : (200 : Int64).toInt = 200 := rfl
          have e17 := c_lsub ((a).toInt64) (200 : Int64)
          have r17 := rng64 (((a).toInt64) - (200 : Int64))
          have e20 : (0 : Int64).toInt = 0 := rfl
          have e21 : (201 : Int32).toInt = 201 := rfl
          have e22 : (202 : Int32).toInt = 202 := rfl
          have e23 : (203 : Int32).toInt = 203 := rfl
          have e24 : (1 : Int32).toInt = 1 := rfl
          omega
      · refine g_lload cx d0_107 rfl ?_
        refine g_ldcJ cx d0_109 (hw _ (List.mem_of_getElem? (i := 59) rfl)) ?_
        refine g_lif_gt cx d0_112 d0_113 (fun hc113 => ?_) (fun hc113 => ?_)
        · refine g_iconst cx d0_120 (v := (0 : Int32)) rfl ?_
          refine g_istore cx d0_121 (Ls' := #[.val (.int a), .val (.int sel), .val (.int c1), .val (.int c2), .val (.int a), .val (.ref b2), .val (.ref b11), .val (.ref b20), .val (.int (1 : Int32)), .val (.long (((a).toInt64) - (200 : Int64))), .second, .val (.int (0 : Int32))]) rfl ?_
          refine g_iload cx d0_123 rfl ?_
          refine g_iload cx d0_125 rfl ?_
          refine g_static cx (y := (⟨"com/example/egret/egret/service/OutcomeDeliveredPinLaw", "isSuccessStatus", "(I)Z"⟩ : MethodName)) d0_127 (hw _ (List.mem_of_getElem? (i := 55) rfl)) (hw _ (List.mem_of_getElem? (i := 56) rfl)) (hw _ (List.mem_of_getElem? (i := 57) rfl)) (hw _ (List.mem_of_getElem? (i := 58) rfl)) (by decide) (bytes := method_2_code) (maxL' := 1) (M := (ra8 l Z a0 hw a _  OL cs SCS ncs)) rfl (lenOf pd_8 rfl) (by decide) (W := 1) (Nat.le_of_eq rfl) (by decide) (k' := 7) (n' := 15) rfl rfl (by decide) (by decide) (argsL := [(.int a)]) (rest := [(.int (1 : Int32))]) rfl (fun v298 h297 q299 => ?_)
          rcases q299 with ⟨hq271, rfl, rfl⟩ | ⟨hq273, hq274, rfl, rfl⟩ | ⟨hq276, hq277, hq278, rfl, rfl⟩ | ⟨hq280, hq281, hq282, hq283, rfl, rfl⟩ | ⟨hq285, hq286, hq287, hq288, hq289, rfl, rfl⟩ | ⟨hq291, hq292, hq293, hq294, hq295, rfl, rfl⟩
          · refine G.cast (st' := [(.int (1 : Int32)), (.int (1 : Int32))]) ?_ rfl
            refine g_icmp_ne cx d0_130 (fun q => absurd q (fun q => by revert q; decide)) (fun hc130 => ?_)
            refine g_iload cx d0_133 rfl ?_
            refine g_iload cx d0_135 rfl ?_
            refine g_icmp_ne cx d0_137 (fun hc137 => ?_) (fun q => absurd q (fun q => by revert q; decide))
            refine g_iconst cx d0_144 (v := (0 : Int32)) rfl ?_
            refine g_retZ cx d0_145 rfl rfl (by decide) (by decide) ?_
            exfalso
            have i_hc3 : ((sel &&& (1 : Int32))).toInt = ((0 : Int32)).toInt := congrArg Int32.toInt hc3
            have i_hq33 : ¬ (cs).toInt = ((0 : Int32)).toInt := fun z => hq33 (Int32.toInt_inj.mp z)
            have i_hq34 : ¬ ((255 : Int32)).toInt < ((nar .char (((c1 &&& (255 : Int32))).toUInt32.toUInt16.toUInt32.toInt32))).toInt := fun z => hq34 (Int32.lt_iff_toInt_lt.mpr z)
            have i_hq47 : ¬ (cs).toInt = ((0 : Int32)).toInt := fun z => hq47 (Int32.toInt_inj.mp z)
            have i_hq48 : ¬ ((255 : Int32)).toInt < ((nar .char (((c2 &&& (255 : Int32))).toUInt32.toUInt16.toUInt32.toInt32))).toInt := fun z => hq48 (Int32.lt_iff_toInt_lt.mpr z)
            have i_hq62 : ¬ (a).toInt < ((200 : Int32)).toInt := fun z => hq62 (Int32.lt_iff_toInt_lt.mpr z)
            have i_hq63 : ¬ ((204 : Int32)).toInt < (a).toInt := fun z => hq63 (Int32.lt_iff_toInt_lt.mpr z)
            have i_hc104 : ¬ ((((a).toInt64) - (200 : Int64))).toInt < ((0 : Int64)).toInt := fun z => hc104 (Int64.lt_iff_toInt_lt.mpr z)
            have i_hc113 : ((4 : Int64)).toInt < ((((a).toInt64) - (200 : Int64))).toInt := Int64.lt_iff_toInt_lt.mp hc113
            have i_hq271 : (a).toInt = ((200 : Int32)).toInt := congrArg Int32.toInt hq271
            have i_hc130 : ((1 : Int32)).toInt = ((1 : Int32)).toInt := congrArg Int32.toInt hc130
            have i_hc137 : ¬ ((1 : Int32)).toInt = ((0 : Int32)).toInt := fun z => hc137 (Int32.toInt_inj.mp z)
            have r2 := rng32 sel
            have e1 : ((sel &&& (1 : Int32))).toInt = (sel).toInt % 2 := c_mask sel (1 : Int32) 1 (by decide) (by decide)
            have e3 : (0 : Int32).toInt = 0 := rfl
            have r4 := rng32 cs
            have e5 : (255 : Int32).toInt = 255 := rfl
            have r9 := rng32 c1
            have e8 : ((c1 &&& (255 : Int32))).toInt = (c1).toInt % 256 := c_mask c1 (255 : Int32) 8 (by decide) (by decide)
            have e7 := c_i2c (c1 &&& (255 : Int32))
            have e6 : (((nar .char (((c1 &&& (255 : Int32))).toUInt32.toUInt16.toUInt32.toInt32))).toInt - ((((c1 &&& (255 : Int32))).toUInt32.toUInt16.toUInt32.toInt32)).toInt) % 65536 = 0 ∧ 0 ≤ ((nar .char (((c1 &&& (255 : Int32))).toUInt32.toUInt16.toUInt32.toInt32))).toInt ∧ ((nar .char (((c1 &&& (255 : Int32))).toUInt32.toUInt16.toUInt32.toInt32))).toInt < 65536 := c_i2c (((c1 &&& (255 : Int32))).toUInt32.toUInt16.toUInt32.toInt32)
            have r13 := rng32 c2
            have e12 : ((c2 &&& (255 : Int32))).toInt = (c2).toInt % 256 := c_mask c2 (255 : Int32) 8 (by decide) (by decide)
            have e11 := c_i2c (c2 &&& (255 : Int32))
            have e10 : (((nar .char (((c2 &&& (255 : Int32))).toUInt32.toUInt16.toUInt32.toInt32))).toInt - ((((c2 &&& (255 : Int32))).toUInt32.toUInt16.toUInt32.toInt32)).toInt) % 65536 = 0 ∧ 0 ≤ ((nar .char (((c2 &&& (255 : Int32))).toUInt32.toUInt16.toUInt32.toInt32))).toInt ∧ ((nar .char (((c2 &&& (255 : Int32))).toUInt32.toUInt16.toUInt32.toInt32))).toInt < 65536 := c_i2c (((c2 &&& (255 : Int32))).toUInt32.toUInt16.toUInt32.toInt32)
            have r14 := rng32 a
            have e15 : (200 : Int32).toInt = 200 := rfl
            have e16 : (204 : Int32).toInt = 204 := rfl
            have e18 := c_i2l a
            have e19 : (200 : Int64).toInt = 200 := rfl
            have e17 := c_lsub ((a).toInt64) (200 : Int64)
            have r17 := rng64 (((a).toInt64) - (200 : Int64))
            have e20 : (0 : Int64).toInt = 0 := rfl
            have e21 : (4 : Int64).toInt = 4 := rfl
            have e22 : (1 : Int32).toInt = 1 := rfl
            omega
          · refine G.cast (st' := [(.int (1 : Int32)), (.int (1 : Int32))]) ?_ rfl
            refine g_icmp_ne cx d0_130 (fun q => absurd q (fun q => by revert q; decide)) (fun hc130 => ?_)
            refine g_iload cx d0_133 rfl ?_
            refine g_iload cx d0_135 rfl ?_
            refine g_icmp_ne cx d0_137 (fun hc137 => ?_) (fun q => absurd q (fun q => by revert q; decide))
            refine g_iconst cx d0_144 (v := (0 : Int32)) rfl ?_
            refine g_retZ cx d0_145 rfl rfl (by decide) (by decide) ?_
            exfalso
            have i_hc3 : ((sel &&& (1 : Int32))).toInt = ((0 : Int32)).toInt := congrArg Int32.toInt hc3
            have i_hq33 : ¬ (cs).toInt = ((0 : Int32)).toInt := fun z => hq33 (Int32.toInt_inj.mp z)
            have i_hq34 : ¬ ((255 : Int32)).toInt < ((nar .char (((c1 &&& (255 : Int32))).toUInt32.toUInt16.toUInt32.toInt32))).toInt := fun z => hq34 (Int32.lt_iff_toInt_lt.mpr z)
            have i_hq47 : ¬ (cs).toInt = ((0 : Int32)).toInt := fun z => hq47 (Int32.toInt_inj.mp z)
            have i_hq48 : ¬ ((255 : Int32)).toInt < ((nar .char (((c2 &&& (255 : Int32))).toUInt32.toUInt16.toUInt32.toInt32))).toInt := fun z => hq48 (Int32.lt_iff_toInt_lt.mpr z)
            have i_hq62 : ¬ (a).toInt < ((200 : Int32)).toInt := fun z => hq62 (Int32.lt_iff_toInt_lt.mpr z)
            have i_hq63 : ¬ ((204 : Int32)).toInt < (a).toInt := fun z => hq63 (Int32.lt_iff_toInt_lt.mpr z)
            have i_hc104 : ¬ ((((a).toInt64) - (200 : Int64))).toInt < ((0 : Int64)).toInt := fun z => hc104 (Int64.lt_iff_toInt_lt.mpr z)
            have i_hc113 : ((4 : Int64)).toInt < ((((a).toInt64) - (200 : Int64))).toInt := Int64.lt_iff_toInt_lt.mp hc113
            have i_hq273 : ¬ (a).toInt = ((200 : Int32)).toInt := fun z => hq273 (Int32.toInt_inj.mp z)
            have i_hq274 : (a).toInt = ((201 : Int32)).toInt := congrArg Int32.toInt hq274
            have i_hc130 : ((1 : Int32)).toInt = ((1 : Int32)).toInt := congrArg Int32.toInt hc130
            have i_hc137 : ¬ ((1 : Int32)).toInt = ((0 : Int32)).toInt := fun z => hc137 (Int32.toInt_inj.mp z)
            have r2 := rng32 sel
            have e1 : ((sel &&& (1 : Int32))).toInt = (sel).toInt % 2 := c_mask sel (1 : Int32) 1 (by decide) (by decide)
            have e3 : (0 : Int32).toInt = 0 := rfl
            have r4 := rng32 cs
            have e5 : (255 : Int32).toInt = 255 := rfl
            have r9 := rng32 c1
            have e8 : ((c1 &&& (255 : Int32))).toInt = (c1).toInt % 256 := c_mask c1 (255 : Int32) 8 (by decide) (by decide)
            have e7 := c_i2c (c1 &&& (255 : Int32))
            have e6 : (((nar .char (((c1 &&& (255 : Int32))).toUInt32.toUInt16.toUInt32.toInt32))).toInt - ((((c1 &&& (255 : Int32))).toUInt32.toUInt16.toUInt32.toInt32)).toInt) % 65536 = 0 ∧ 0 ≤ ((nar .char (((c1 &&& (255 : Int32))).toUInt32.toUInt16.toUInt32.toInt32))).toInt ∧ ((nar .char (((c1 &&& (255 : Int32))).toUInt32.toUInt16.toUInt32.toInt32))).toInt < 65536 := c_i2c (((c1 &&& (255 : Int32))).toUInt32.toUInt16.toUInt32.toInt32)
            have r13 := rng32 c2
            have e12 : ((c2 &&& (255 : Int32))).toInt = (c2).toInt % 256 := c_mask c2 (255 : Int32) 8 (by decide) (by decide)
            have e11 := c_i2c (c2 &&& (255 : Int32))
            have e10 : (((nar .char (((c2 &&& (255 : Int32))).toUInt32.toUInt16.toUInt32.toInt32))).toInt - ((((c2 &&& (255 : Int32))).toUInt32.toUInt16.toUInt32.toInt32)).toInt) % 65536 = 0 ∧ 0 ≤ ((nar .char (((c2 &&& (255 : Int32))).toUInt32.toUInt16.toUInt32.toInt32))).toInt ∧ ((nar .char (((c2 &&& (255 : Int32))).toUInt32.toUInt16.toUInt32.toInt32))).toInt < 65536 := c_i2c (((c2 &&& (255 : Int32))).toUInt32.toUInt16.toUInt32.toInt32)
            have r14 := rng32 a
            have e15 : (200 : Int32).toInt = 200 := rfl
            have e16 : (204 : Int32).toInt = 204 := rfl
            have e18 := c_i2l a
            have e19 : (200 : Int64).toInt = 200 := rfl
            have e17 := c_lsub ((a).toInt64) (200 : Int64)
            have r17 := rng64 (((a).toInt64) - (200 : Int64))
            have e20 : (0 : Int64).toInt = 0 := rfl
            have e21 : (4 : Int64).toInt = 4 := rfl
            have e22 : (201 : Int32).toInt = 201 := rfl
            have e23 : (1 : Int32).toInt = 1 := rfl
            omega
          · refine G.cast (st' := [(.int (1 : Int32)), (.int (1 : Int32))]) ?_ rfl
            refine g_icmp_ne cx d0_130 (fun q => absurd q (fun q => by revert q; decide)) (fun hc130 => ?_)
            refine g_iload cx d0_133 rfl ?_
            refine g_iload cx d0_135 rfl ?_
            refine g_icmp_ne cx d0_137 (fun hc137 => ?_) (fun q => absurd q (fun q => by revert q; decide))
            refine g_iconst cx d0_144 (v := (0 : Int32)) rfl ?_
            refine g_retZ cx d0_145 rfl rfl (by decide) (by decide) ?_
            exfalso
            have i_hc3 : ((sel &&& (1 : Int32))).toInt = ((0 : Int32)).toInt := congrArg Int32.toInt hc3
            have i_hq33 : ¬ (cs).toInt = ((0 : Int32)).toInt := fun z => hq33 (Int32.toInt_inj.mp z)
            have i_hq34 : ¬ ((255 : Int32)).toInt < ((nar .char (((c1 &&& (255 : Int32))).toUInt32.toUInt16.toUInt32.toInt32))).toInt := fun z => hq34 (Int32.lt_iff_toInt_lt.mpr z)
            have i_hq47 : ¬ (cs).toInt = ((0 : Int32)).toInt := fun z => hq47 (Int32.toInt_inj.mp z)
            have i_hq48 : ¬ ((255 : Int32)).toInt < ((nar .char (((c2 &&& (255 : Int32))).toUInt32.toUInt16.toUInt32.toInt32))).toInt := fun z => hq48 (Int32.lt_iff_toInt_lt.mpr z)
            have i_hq62 : ¬ (a).toInt < ((200 : Int32)).toInt := fun z => hq62 (Int32.lt_iff_toInt_lt.mpr z)
            have i_hq63 : ¬ ((204 : Int32)).toInt < (a).toInt := fun z => hq63 (Int32.lt_iff_toInt_lt.mpr z)
            have i_hc104 : ¬ ((((a).toInt64) - (200 : Int64))).toInt < ((0 : Int64)).toInt := fun z => hc104 (Int64.lt_iff_toInt_lt.mpr z)
            have i_hc113 : ((4 : Int64)).toInt < ((((a).toInt64) - (200 : Int64))).toInt := Int64.lt_iff_toInt_lt.mp hc113
            have i_hq276 : ¬ (a).toInt = ((200 : Int32)).toInt := fun z => hq276 (Int32.toInt_inj.mp z)
            have i_hq277 : ¬ (a).toInt = ((201 : Int32)).toInt := fun z => hq277 (Int32.toInt_inj.mp z)
            have i_hq278 : (a).toInt = ((202 : Int32)).toInt := congrArg Int32.toInt hq278
            have i_hc130 : ((1 : Int32)).toInt = ((1 : Int32)).toInt := congrArg Int32.toInt hc130
            have i_hc137 : ¬ ((1 : Int32)).toInt = ((0 : Int32)).toInt := fun z => hc137 (Int32.toInt_inj.mp z)
            have r2 := rng32 sel
            have e1 : ((sel &&& (1 : Int32))).toInt = (sel).toInt % 2 := c_mask sel (1 : Int32) 1 (by decide) (by decide)
            have e3 : (0 : Int32).toInt = 0 := rfl
            have r4 := rng32 cs
            have e5 : (255 : Int32).toInt = 255 := rfl
            have r9 := rng32 c1
            have e8 : ((c1 &&& (255 : Int32))).toInt = (c1).toInt % 256 := c_mask c1 (255 : Int32) 8 (by decide) (by decide)
            have e7 := c_i2c (c1 &&& (255 : Int32))
            have e6 : (((nar .char (((c1 &&& (255 : Int32))).toUInt32.toUInt16.toUInt32.toInt32))).toInt - ((((c1 &&& (255 : Int32))).toUInt32.toUInt16.toUInt32.toInt32)).toInt) % 65536 = 0 ∧ 0 ≤ ((nar .char (((c1 &&& (255 : Int32))).toUInt32.toUInt16.toUInt32.toInt32))).toInt ∧ ((nar .char (((c1 &&& (255 : Int32))).toUInt32.toUInt16.toUInt32.toInt32))).toInt < 65536 := c_i2c (((c1 &&& (255 : Int32))).toUInt32.toUInt16.toUInt32.toInt32)
            have r13 := rng32 c2
            have e12 : ((c2 &&& (255 : Int32))).toInt = (c2).toInt % 256 := c_mask c2 (255 : Int32) 8 (by decide) (by decide)
            have e11 := c_i2c (c2 &&& (255 : Int32))
            have e10 : (((nar .char (((c2 &&& (255 : Int32))).toUInt32.toUInt16.toUInt32.toInt32))).toInt - ((((c2 &&& (255 : Int32))).toUInt32.toUInt16.toUInt32.toInt32)).toInt) % 65536 = 0 ∧ 0 ≤ ((nar .char (((c2 &&& (255 : Int32))).toUInt32.toUInt16.toUInt32.toInt32))).toInt ∧ ((nar .char (((c2 &&& (255 : Int32))).toUInt32.toUInt16.toUInt32.toInt32))).toInt < 65536 := c_i2c (((c2 &&& (255 : Int32))).toUInt32.toUInt16.toUInt32.toInt32)
            have r14 := rng32 a
            have e15 : (200 : Int32).toInt = 200 := rfl
            have e16 : (204 : Int32).toInt = 204 := rfl
            have e18 := c_i2l a
            have e19 : (200 : Int64).toInt = 200 := rfl
            have e17 := c_lsub ((a).toInt64) (200 : Int64)
            have r17 := rng64 (((a).toInt64) - (200 : Int64))
            have e20 : (0 : Int64).toInt = 0 := rfl
            have e21 : (4 : Int64).toInt = 4 := rfl
            have e22 : (201 : Int32).toInt = 201 := rfl
            have e23 : (202 : Int32).toInt = 202 := rfl
            have e24 : (1 : Int32).toInt = 1 := rfl
            omega
          · refine G.cast (st' := [(.int (1 : Int32)), (.int (1 : Int32))]) ?_ rfl
            refine g_icmp_ne cx d0_130 (fun q => absurd q (fun q => by revert q; decide)) (fun hc130 => ?_)
            refine g_iload cx d0_133 rfl ?_
            refine g_iload cx d0_135 rfl ?_
            refine g_icmp_ne cx d0_137 (fun hc137 => ?_) (fun q => absurd q (fun q => by revert q; decide))
            refine g_iconst cx d0_144 (v := (0 : Int32)) rfl ?_
            refine g_retZ cx d0_145 rfl rfl (by decide) (by decide) ?_
            exfalso
            have i_hc3 : ((sel &&& (1 : Int32))).toInt = ((0 : Int32)).toInt := congrArg Int32.toInt hc3
            have i_hq33 : ¬ (cs).toInt = ((0 : Int32)).toInt := fun z => hq33 (Int32.toInt_inj.mp z)
            have i_hq34 : ¬ ((255 : Int32)).toInt < ((nar .char (((c1 &&& (255 : Int32))).toUInt32.toUInt16.toUInt32.toInt32))).toInt := fun z => hq34 (Int32.lt_iff_toInt_lt.mpr z)
            have i_hq47 : ¬ (cs).toInt = ((0 : Int32)).toInt := fun z => hq47 (Int32.toInt_inj.mp z)
            have i_hq48 : ¬ ((255 : Int32)).toInt < ((nar .char (((c2 &&& (255 : Int32))).toUInt32.toUInt16.toUInt32.toInt32))).toInt := fun z => hq48 (Int32.lt_iff_toInt_lt.mpr z)
            have i_hq62 : ¬ (a).toInt < ((200 : Int32)).toInt := fun z => hq62 (Int32.lt_iff_toInt_lt.mpr z)
            have i_hq63 : ¬ ((204 : Int32)).toInt < (a).toInt := fun z => hq63 (Int32.lt_iff_toInt_lt.mpr z)
            have i_hc104 : ¬ ((((a).toInt64) - (200 : Int64))).toInt < ((0 : Int64)).toInt := fun z => hc104 (Int64.lt_iff_toInt_lt.mpr z)
            have i_hc113 : ((4 : Int64)).toInt < ((((a).toInt64) - (200 : Int64))).toInt := Int64.lt_iff_toInt_lt.mp hc113
            have i_hq280 : ¬ (a).toInt = ((200 : Int32)).toInt := fun z => hq280 (Int32.toInt_inj.mp z)
            have i_hq281 : ¬ (a).toInt = ((201 : Int32)).toInt := fun z => hq281 (Int32.toInt_inj.mp z)
            have i_hq282 : ¬ (a).toInt = ((202 : Int32)).toInt := fun z => hq282 (Int32.toInt_inj.mp z)
            have i_hq283 : (a).toInt = ((203 : Int32)).toInt := congrArg Int32.toInt hq283
            have i_hc130 : ((1 : Int32)).toInt = ((1 : Int32)).toInt := congrArg Int32.toInt hc130
            have i_hc137 : ¬ ((1 : Int32)).toInt = ((0 : Int32)).toInt := fun z => hc137 (Int32.toInt_inj.mp z)
            have r2 := rng32 sel
            have e1 : ((sel &&& (1 : Int32))).toInt = (sel).toInt % 2 := c_mask sel (1 : Int32) 1 (by decide) (by decide)
            have e3 : (0 : Int32).toInt = 0 := rfl
            have r4 := rng32 cs
            have e5 : (255 : Int32).toInt = 255 := rfl
            have r9 := rng32 c1
            have e8 : ((c1 &&& (255 : Int32))).toInt = (c1).toInt % 256 := c_mask c1 (255 : Int32) 8 (by decide) (by decide)
            have e7 := c_i2c (c1 &&& (255 : Int32))
            have e6 : (((nar .char (((c1 &&& (255 : Int32))).toUInt32.toUInt16.toUInt32.toInt32))).toInt - ((((c1 &&& (255 : Int32))).toUInt32.toUInt16.toUInt32.toInt32)).toInt) % 65536 = 0 ∧ 0 ≤ ((nar .char (((c1 &&& (255 : Int32))).toUInt32.toUInt16.toUInt32.toInt32))).toInt ∧ ((nar .char (((c1 &&& (255 : Int32))).toUInt32.toUInt16.toUInt32.toInt32))).toInt < 65536 := c_i2c (((c1 &&& (255 : Int32))).toUInt32.toUInt16.toUInt32.toInt32)
            have r13 := rng32 c2
            have e12 : ((c2 &&& (255 : Int32))).toInt = (c2).toInt % 256 := c_mask c2 (255 : Int32) 8 (by decide) (by decide)
            have e11 := c_i2c (c2 &&& (255 : Int32))
            have e10 : (((nar .char (((c2 &&& (255 : Int32))).toUInt32.toUInt16.toUInt32.toInt32))).toInt - ((((c2 &&& (255 : Int32))).toUInt32.toUInt16.toUInt32.toInt32)).toInt) % 65536 = 0 ∧ 0 ≤ ((nar .char (((c2 &&& (255 : Int32))).toUInt32.toUInt16.toUInt32.toInt32))).toInt ∧ ((nar .char (((c2 &&& (255 : Int32))).toUInt32.toUInt16.toUInt32.toInt32))).toInt < 65536 := c_i2c (((c2 &&& (255 : Int32))).toUInt32.toUInt16.toUInt32.toInt32)
            have r14 := rng32 a
            have e15 : (200 : Int32).toInt = 200 := rfl
            have e16 : (204 : Int32).toInt = 204 := rfl
            have e18 := c_i2l a
            have e19 : (200 : Int64).toInt = 200 := rfl
            have e17 := c_lsub ((a).toInt64) (200 : Int64)
            have r17 := rng64 (((a).toInt64) - (200 : Int64))
            have e20 : (0 : Int64).toInt = 0 := rfl
            have e21 : (4 : Int64).toInt = 4 := rfl
            have e22 : (201 : Int32).toInt = 201 := rfl
            have e23 : (202 : Int32).toInt = 202 := rfl
            have e24 : (203 : Int32).toInt = 203 := rfl
            have e25 : (1 : Int32).toInt = 1 := rfl
            omega
          · refine G.cast (st' := [(.int (0 : Int32)), (.int (1 : Int32))]) ?_ rfl
            refine g_icmp_ne cx d0_130 (fun hc130 => ?_) (fun q => absurd q (fun q => by revert q; decide))
            refine g_iconst cx d0_144 (v := (0 : Int32)) rfl ?_
            refine g_retZ cx d0_145 rfl rfl (by decide) (by decide) ?_
            exfalso
            have i_hc3 : ((sel &&& (1 : Int32))).toInt = ((0 : Int32)).toInt := congrArg Int32.toInt hc3
            have i_hq33 : ¬ (cs).toInt = ((0 : Int32)).toInt := fun z => hq33 (Int32.toInt_inj.mp z)
            have i_hq34 : ¬ ((255 : Int32)).toInt < ((nar .char (((c1 &&& (255 : Int32))).toUInt32.toUInt16.toUInt32.toInt32))).toInt := fun z => hq34 (Int32.lt_iff_toInt_lt.mpr z)
            have i_hq47 : ¬ (cs).toInt = ((0 : Int32)).toInt := fun z => hq47 (Int32.toInt_inj.mp z)
            have i_hq48 : ¬ ((255 : Int32)).toInt < ((nar .char (((c2 &&& (255 : Int32))).toUInt32.toUInt16.toUInt32.toInt32))).toInt := fun z => hq48 (Int32.lt_iff_toInt_lt.mpr z)
            have i_hq62 : ¬ (a).toInt < ((200 : Int32)).toInt := fun z => hq62 (Int32.lt_iff_toInt_lt.mpr z)
            have i_hq63 : ¬ ((204 : Int32)).toInt < (a).toInt := fun z => hq63 (Int32.lt_iff_toInt_lt.mpr z)
            have i_hc104 : ¬ ((((a).toInt64) - (200 : Int64))).toInt < ((0 : Int64)).toInt := fun z => hc104 (Int64.lt_iff_toInt_lt.mpr z)
            have i_hc113 : ((4 : Int64)).toInt < ((((a).toInt64) - (200 : Int64))).toInt := Int64.lt_iff_toInt_lt.mp hc113
            have i_hq285 : ¬ (a).toInt = ((200 : Int32)).toInt := fun z => hq285 (Int32.toInt_inj.mp z)
            have i_hq286 : ¬ (a).toInt = ((201 : Int32)).toInt := fun z => hq286 (Int32.toInt_inj.mp z)
            have i_hq287 : ¬ (a).toInt = ((202 : Int32)).toInt := fun z => hq287 (Int32.toInt_inj.mp z)
            have i_hq288 : ¬ (a).toInt = ((203 : Int32)).toInt := fun z => hq288 (Int32.toInt_inj.mp z)
            have i_hq289 : ¬ (a).toInt = ((204 : Int32)).toInt := fun z => hq289 (Int32.toInt_inj.mp z)
            have i_hc130 : ¬ ((1 : Int32)).toInt = ((0 : Int32)).toInt := fun z => hc130 (Int32.toInt_inj.mp z)
            have r2 := rng32 sel
            have e1 : ((sel &&& (1 : Int32))).toInt = (sel).toInt % 2 := c_mask sel (1 : Int32) 1 (by decide) (by decide)
            have e3 : (0 : Int32).toInt = 0 := rfl
            have r4 := rng32 cs
            have e5 : (255 : Int32).toInt = 255 := rfl
            have r9 := rng32 c1
            have e8 : ((c1 &&& (255 : Int32))).toInt = (c1).toInt % 256 := c_mask c1 (255 : Int32) 8 (by decide) (by decide)
            have e7 := c_i2c (c1 &&& (255 : Int32))
            have e6 : (((nar .char (((c1 &&& (255 : Int32))).toUInt32.toUInt16.toUInt32.toInt32))).toInt - ((((c1 &&& (255 : Int32))).toUInt32.toUInt16.toUInt32.toInt32)).toInt) % 65536 = 0 ∧ 0 ≤ ((nar .char (((c1 &&& (255 : Int32))).toUInt32.toUInt16.toUInt32.toInt32))).toInt ∧ ((nar .char (((c1 &&& (255 : Int32))).toUInt32.toUInt16.toUInt32.toInt32))).toInt < 65536 := c_i2c (((c1 &&& (255 : Int32))).toUInt32.toUInt16.toUInt32.toInt32)
            have r13 := rng32 c2
            have e12 : ((c2 &&& (255 : Int32))).toInt = (c2).toInt % 256 := c_mask c2 (255 : Int32) 8 (by decide) (by decide)
            have e11 := c_i2c (c2 &&& (255 : Int32))
            have e10 : (((nar .char (((c2 &&& (255 : Int32))).toUInt32.toUInt16.toUInt32.toInt32))).toInt - ((((c2 &&& (255 : Int32))).toUInt32.toUInt16.toUInt32.toInt32)).toInt) % 65536 = 0 ∧ 0 ≤ ((nar .char (((c2 &&& (255 : Int32))).toUInt32.toUInt16.toUInt32.toInt32))).toInt ∧ ((nar .char (((c2 &&& (255 : Int32))).toUInt32.toUInt16.toUInt32.toInt32))).toInt < 65536 := c_i2c (((c2 &&& (255 : Int32))).toUInt32.toUInt16.toUInt32.toInt32)
            have r14 := rng32 a
            have e15 : (200 : Int32).toInt = 200 := rfl
            have e16 : (204 : Int32).toInt = 204 := rfl
            have e18 := c_i2l a
            have e19 : (200 : Int64).toInt = 200 := rfl
            have e17 := c_lsub ((a).toInt64) (200 : Int64)
            have r17 := rng64 (((a).toInt64) - (200 : Int64))
            have e20 : (0 : Int64).toInt = 0 := rfl
            have e21 : (4 : Int64).toInt = 4 := rfl
            have e22 : (201 : Int32).toInt = 201 := rfl
            have e23 : (202 : Int32).toInt = 202 := rfl
            have e24 : (203 : Int32).toInt = 203 := rfl
            have e25 : (1 : Int32).toInt = 1 := rfl
            omega
          · refine G.cast (st' := [(.int (1 : Int32)), (.int (1 : Int32))]) ?_ rfl
            refine g_icmp_ne cx d0_130 (fun q => absurd q (fun q => by revert q; decide)) (fun hc130 => ?_)
            refine g_iload cx d0_133 rfl ?_
            refine g_iload cx d0_135 rfl ?_
            refine g_icmp_ne cx d0_137 (fun hc137 => ?_) (fun q => absurd q (fun q => by revert q; decide))
            refine g_iconst cx d0_144 (v := (0 : Int32)) rfl ?_
            refine g_retZ cx d0_145 rfl rfl (by decide) (by decide) ?_
            exfalso
            have i_hc3 : ((sel &&& (1 : Int32))).toInt = ((0 : Int32)).toInt := congrArg Int32.toInt hc3
            have i_hq33 : ¬ (cs).toInt = ((0 : Int32)).toInt := fun z => hq33 (Int32.toInt_inj.mp z)
            have i_hq34 : ¬ ((255 : Int32)).toInt < ((nar .char (((c1 &&& (255 : Int32))).toUInt32.toUInt16.toUInt32.toInt32))).toInt := fun z => hq34 (Int32.lt_iff_toInt_lt.mpr z)
            have i_hq47 : ¬ (cs).toInt = ((0 : Int32)).toInt := fun z => hq47 (Int32.toInt_inj.mp z)
            have i_hq48 : ¬ ((255 : Int32)).toInt < ((nar .char (((c2 &&& (255 : Int32))).toUInt32.toUInt16.toUInt32.toInt32))).toInt := fun z => hq48 (Int32.lt_iff_toInt_lt.mpr z)
            have i_hq62 : ¬ (a).toInt < ((200 : Int32)).toInt := fun z => hq62 (Int32.lt_iff_toInt_lt.mpr z)
            have i_hq63 : ¬ ((204 : Int32)).toInt < (a).toInt := fun z => hq63 (Int32.lt_iff_toInt_lt.mpr z)
            have i_hc104 : ¬ ((((a).toInt64) - (200 : Int64))).toInt < ((0 : Int64)).toInt := fun z => hc104 (Int64.lt_iff_toInt_lt.mpr z)
            have i_hc113 : ((4 : Int64)).toInt < ((((a).toInt64) - (200 : Int64))).toInt := Int64.lt_iff_toInt_lt.mp hc113
            have i_hq291 : ¬ (a).toInt = ((200 : Int32)).toInt := fun z => hq291 (Int32.toInt_inj.mp z)
            have i_hq292 : ¬ (a).toInt = ((201 : Int32)).toInt := fun z => hq292 (Int32.toInt_inj.mp z)
            have i_hq293 : ¬ (a).toInt = ((202 : Int32)).toInt := fun z => hq293 (Int32.toInt_inj.mp z)
            have i_hq294 : ¬ (a).toInt = ((203 : Int32)).toInt := fun z => hq294 (Int32.toInt_inj.mp z)
            have i_hq295 : (a).toInt = ((204 : Int32)).toInt := congrArg Int32.toInt hq295
            have i_hc130 : ((1 : Int32)).toInt = ((1 : Int32)).toInt := congrArg Int32.toInt hc130
            have i_hc137 : ¬ ((1 : Int32)).toInt = ((0 : Int32)).toInt := fun z => hc137 (Int32.toInt_inj.mp z)
            have r2 := rng32 sel
            have e1 : ((sel &&& (1 : Int32))).toInt = (sel).toInt % 2 := c_mask sel (1 : Int32) 1 (by decide) (by decide)
            have e3 : (0 : Int32).toInt = 0 := rfl
            have r4 := rng32 cs
            have e5 : (255 : Int32).toInt = 255 := rfl
            have r9 := rng32 c1
            have e8 : ((c1 &&& (255 : Int32))).toInt = (c1).toInt % 256 := c_mask c1 (255 : Int32) 8 (by decide) (by decide)
            have e7 := c_i2c (c1 &&& (255 : Int32))
            have e6 : (((nar .char (((c1 &&& (255 : Int32))).toUInt32.toUInt16.toUInt32.toInt32))).toInt - ((((c1 &&& (255 : Int32))).toUInt32.toUInt16.toUInt32.toInt32)).toInt) % 65536 = 0 ∧ 0 ≤ ((nar .char (((c1 &&& (255 : Int32))).toUInt32.toUInt16.toUInt32.toInt32))).toInt ∧ ((nar .char (((c1 &&& (255 : Int32))).toUInt32.toUInt16.toUInt32.toInt32))).toInt < 65536 := c_i2c (((c1 &&& (255 : Int32))).toUInt32.toUInt16.toUInt32.toInt32)
            have r13 := rng32 c2
            have e12 : ((c2 &&& (255 : Int32))).toInt = (c2).toInt % 256 := c_mask c2 (255 : Int32) 8 (by decide) (by decide)
            have e11 := c_i2c (c2 &&& (255 : Int32))
            have e10 : (((nar .char (((c2 &&& (255 : Int32))).toUInt32.toUInt16.toUInt32.toInt32))).toInt - ((((c2 &&& (255 : Int32))).toUInt32.toUInt16.toUInt32.toInt32)).toInt) % 65536 = 0 ∧ 0 ≤ ((nar .char (((c2 &&& (255 : Int32))).toUInt32.toUInt16.toUInt32.toInt32))).toInt ∧ ((nar .char (((c2 &&& (255 : Int32))).toUInt32.toUInt16.toUInt32.toInt32))).toInt < 65536 := c_i2c (((c2 &&& (255 : Int32))).toUInt32.toUInt16.toUInt32.toInt32)
            have r14 := rng32 a
            have e15 : (200 : Int32).toInt = 200 := rfl
            have e16 : (204 : Int32).toInt = 204 := rfl
            have e18 := c_i2l a
            have e19 : (200 : Int64).toInt = 200 := rfl
            have e17 := c_lsub ((a).toInt64) (200 : Int64)
            have r17 := rng64 (((a).toInt64) - (200 : Int64))
            have e20 : (0 : Int64).toInt = 0 := rfl
            have e21 : (4 : Int64).toInt = 4 := rfl
            have e22 : (201 : Int32).toInt = 201 := rfl
            have e23 : (202 : Int32).toInt = 202 := rfl
            have e24 : (203 : Int32).toInt = 203 := rfl
            have e25 : (1 : Int32).toInt = 1 := rfl
            omega
        · refine g_iconst cx d0_116 (v := (1 : Int32)) rfl ?_
          refine g_goto cx d0_117 ?_
          refine g_istore cx d0_121 (Ls' := #[.val (.int a), .val (.int sel), .val (.int c1), .val (.int c2), .val (.int a), .val (.ref b2), .val (.ref b11), .val (.ref b20), .val (.int (1 : Int32)), .val (.long (((a).toInt64) - (200 : Int64))), .second, .val (.int (1 : Int32))]) rfl ?_
          refine g_iload cx d0_123 rfl ?_
          refine g_iload cx d0_125 rfl ?_
          refine g_static cx (y := (⟨"com/example/egret/egret/service/OutcomeDeliveredPinLaw", "isSuccessStatus", "(I)Z"⟩ : MethodName)) d0_127 (hw _ (List.mem_of_getElem? (i := 55) rfl)) (hw _ (List.mem_of_getElem? (i := 56) rfl)) (hw _ (List.mem_of_getElem? (i := 57) rfl)) (hw _ (List.mem_of_getElem? (i := 58) rfl)) (by decide) (bytes := method_2_code) (maxL' := 1) (M := (ra8 l Z a0 hw a _  OL cs SCS ncs)) rfl (lenOf pd_8 rfl) (by decide) (W := 1) (Nat.le_of_eq rfl) (by decide) (k' := 7) (n' := 15) rfl rfl (by decide) (by decide) (argsL := [(.int a)]) (rest := [(.int (1 : Int32))]) rfl (fun v327 h326 q328 => ?_)
          rcases q328 with ⟨hq300, rfl, rfl⟩ | ⟨hq302, hq303, rfl, rfl⟩ | ⟨hq305, hq306, hq307, rfl, rfl⟩ | ⟨hq309, hq310, hq311, hq312, rfl, rfl⟩ | ⟨hq314, hq315, hq316, hq317, hq318, rfl, rfl⟩ | ⟨hq320, hq321, hq322, hq323, hq324, rfl, rfl⟩
          · refine G.cast (st' := [(.int (1 : Int32)), (.int (1 : Int32))]) ?_ rfl
            refine g_icmp_ne cx d0_130 (fun q => absurd q (fun q => by revert q; decide)) (fun hc130 => ?_)
            refine g_iload cx d0_133 rfl ?_
            refine g_iload cx d0_135 rfl ?_
            refine g_icmp_ne cx d0_137 (fun q => absurd q (fun q => by revert q; decide)) (fun hc137 => ?_)
            refine g_iconst cx d0_140 (v := (1 : Int32)) rfl ?_
            refine g_goto cx d0_141 ?_
            refine g_retZ cx d0_145 rfl rfl (by decide) (by decide) ?_
            rfl
          · refine G.cast (st' := [(.int (1 : Int32)), (.int (1 : Int32))]) ?_ rfl
            refine g_icmp_ne cx d0_130 (fun q => absurd q (fun q => by revert q; decide)) (fun hc130 => ?_)
            refine g_iload cx d0_133 rfl ?_
            refine g_iload cx d0_135 rfl ?_
            refine g_icmp_ne cx d0_137 (fun q => absurd q (fun q => by revert q; decide)) (fun hc137 => ?_)
            refine g_iconst cx d0_140 (v := (1 : Int32)) rfl ?_
            refine g_goto cx d0_141 ?_
            refine g_retZ cx d0_145 rfl rfl (by decide) (by decide) ?_
            rfl
          · refine G.cast (st' := [(.int (1 : Int32)), (.int (1 : Int32))]) ?_ rfl
            refine g_icmp_ne cx d0_130 (fun q => absurd q (fun q => by revert q; decide)) (fun hc130 => ?_)
            refine g_iload cx d0_133 rfl ?_
            refine g_iload cx d0_135 rfl ?_
            refine g_icmp_ne cx d0_137 (fun q => absurd q (fun q => by revert q; decide)) (fun hc137 => ?_)
            refine g_iconst cx d0_140 (v := (1 : Int32)) rfl ?_
            refine g_goto cx d0_141 ?_
            refine g_retZ cx d0_145 rfl rfl (by decide) (by decide) ?_
            rfl
          · refine G.cast (st' := [(.int (1 : Int32)), (.int (1 : Int32))]) ?_ rfl
            refine g_icmp_ne cx d0_130 (fun q => absurd q (fun q => by revert q; decide)) (fun hc130 => ?_)
            refine g_iload cx d0_133 rfl ?_
            refine g_iload cx d0_135 rfl ?_
            refine g_icmp_ne cx d0_137 (fun q => absurd q (fun q => by revert q; decide)) (fun hc137 => ?_)
            refine g_iconst cx d0_140 (v := (1 : Int32)) rfl ?_
            refine g_goto cx d0_141 ?_
            refine g_retZ cx d0_145 rfl rfl (by decide) (by decide) ?_
            rfl
          · refine G.cast (st' := [(.int (0 : Int32)), (.int (1 : Int32))]) ?_ rfl
            refine g_icmp_ne cx d0_130 (fun hc130 => ?_) (fun q => absurd q (fun q => by revert q; decide))
            refine g_iconst cx d0_144 (v := (0 : Int32)) rfl ?_
            refine g_retZ cx d0_145 rfl rfl (by decide) (by decide) ?_
            exfalso
            have i_hc3 : ((sel &&& (1 : Int32))).toInt = ((0 : Int32)).toInt := congrArg Int32.toInt hc3
            have i_hq33 : ¬ (cs).toInt = ((0 : Int32)).toInt := fun z => hq33 (Int32.toInt_inj.mp z)
            have i_hq34 : ¬ ((255 : Int32)).toInt < ((nar .char (((c1 &&& (255 : Int32))).toUInt32.toUInt16.toUInt32.toInt32))).toInt := fun z => hq34 (Int32.lt_iff_toInt_lt.mpr z)
            have i_hq47 : ¬ (cs).toInt = ((0 : Int32)).toInt := fun z => hq47 (Int32.toInt_inj.mp z)
            have i_hq48 : ¬ ((255 : Int32)).toInt < ((nar .char (((c2 &&& (255 : Int32))).toUInt32.toUInt16.toUInt32.toInt32))).toInt := fun z => hq48 (Int32.lt_iff_toInt_lt.mpr z)
            have i_hq62 : ¬ (a).toInt < ((200 : Int32)).toInt := fun z => hq62 (Int32.lt_iff_toInt_lt.mpr z)
            have i_hq63 : ¬ ((204 : Int32)).toInt < (a).toInt := fun z => hq63 (Int32.lt_iff_toInt_lt.mpr z)
            have i_hc104 : ¬ ((((a).toInt64) - (200 : Int64))).toInt < ((0 : Int64)).toInt := fun z => hc104 (Int64.lt_iff_toInt_lt.mpr z)
            have i_hc113 : ¬ ((4 : Int64)).toInt < ((((a).toInt64) - (200 : Int64))).toInt := fun z => hc113 (Int64.lt_iff_toInt_lt.mpr z)
            have i_hq314 : ¬ (a).toInt = ((200 : Int32)).toInt := fun z => hq314 (Int32.toInt_inj.mp z)
            have i_hq315 : ¬ (a).toInt = ((201 : Int32)).toInt := fun z => hq315 (Int32.toInt_inj.mp z)
            have i_hq316 : ¬ (a).toInt = ((202 : Int32)).toInt := fun z => hq316 (Int32.toInt_inj.mp z)
            have i_hq317 : ¬ (a).toInt = ((203 : Int32)).toInt := fun z => hq317 (Int32.toInt_inj.mp z)
            have i_hq318 : ¬ (a).toInt = ((204 : Int32)).toInt := fun z => hq318 (Int32.toInt_inj.mp z)
            have i_hc130 : ¬ ((1 : Int32)).toInt = ((0 : Int32)).toInt := fun z => hc130 (Int32.toInt_inj.mp z)
            have r2 := rng32 sel
            have e1 : ((sel &&& (1 : Int32))).toInt = (sel).toInt % 2 := c_mask sel (1 : Int32) 1 (by decide) (by decide)
            have e3 : (0 : Int32).toInt = 0 := rfl
            have r4 := rng32 cs
            have e5 : (255 : Int32).toInt = 255 := rfl
            have r9 := rng32 c1
            have e8 : ((c1 &&& (255 : Int32))).toInt = (c1).toInt % 256 := c_mask c1 (255 : Int32) 8 (by decide) (by decide)
            have e7 := c_i2c (c1 &&& (255 : Int32))
            have e6 : (((nar .char (((c1 &&& (255 : Int32))).toUInt32.toUInt16.toUInt32.toInt32))).toInt - ((((c1 &&& (255 : Int32))).toUInt32.toUInt16.toUInt32.toInt32)).toInt) % 65536 = 0 ∧ 0 ≤ ((nar .char (((c1 &&& (255 : Int32))).toUInt32.toUInt16.toUInt32.toInt32))).toInt ∧ ((nar .char (((c1 &&& (255 : Int32))).toUInt32.toUInt16.toUInt32.toInt32))).toInt < 65536 := c_i2c (((c1 &&& (255 : Int32))).toUInt32.toUInt16.toUInt32.toInt32)
            have r13 := rng32 c2
            have e12 : ((c2 &&& (255 : Int32))).toInt = (c2).toInt % 256 := c_mask c2 (255 : Int32) 8 (by decide) (by decide)
            have e11 := c_i2c (c2 &&& (255 : Int32))
            have e10 : (((nar .char (((c2 &&& (255 : Int32))).toUInt32.toUInt16.toUInt32.toInt32))).toInt - ((((c2 &&& (255 : Int32))).toUInt32.toUInt16.toUInt32.toInt32)).toInt) % 65536 = 0 ∧ 0 ≤ ((nar .char (((c2 &&& (255 : Int32))).toUInt32.toUInt16.toUInt32.toInt32))).toInt ∧ ((nar .char (((c2 &&& (255 : Int32))).toUInt32.toUInt16.toUInt32.toInt32))).toInt < 65536 := c_i2c (((c2 &&& (255 : Int32))).toUInt32.toUInt16.toUInt32.toInt32)
            have r14 := rng32 a
            have e15 : (200 : Int32).toInt = 200 := rfl
            have e16 : (204 : Int32).toInt = 204 := rfl
            have e18 := c_i2l a
            have e19 : (200 : Int64).toInt = 200 := rfl
            have e17 := c_lsub ((a).toInt64) (200 : Int64)
            have r17 := rng64 (((a).toInt64) - (200 : Int64))
            have e20 : (0 : Int64).toInt = 0 := rfl
            have e21 : (4 : Int64).toInt = 4 := rfl
            have e22 : (201 : Int32).toInt = 201 := rfl
            have e23 : (202 : Int32).toInt = 202 := rfl
            have e24 : (203 : Int32).toInt = 203 := rfl
            have e25 : (1 : Int32).toInt = 1 := rfl
            omega
          · refine G.cast (st' := [(.int (1 : Int32)), (.int (1 : Int32))]) ?_ rfl
            refine g_icmp_ne cx d0_130 (fun q => absurd q (fun q => by revert q; decide)) (fun hc130 => ?_)
            refine g_iload cx d0_133 rfl ?_
            refine g_iload cx d0_135 rfl ?_
            refine g_icmp_ne cx d0_137 (fun q => absurd q (fun q => by revert q; decide)) (fun hc137 => ?_)
            refine g_iconst cx d0_140 (v := (1 : Int32)) rfl ?_
            refine g_goto cx d0_141 ?_
            refine g_retZ cx d0_145 rfl rfl (by decide) (by decide) ?_
            rfl
  · refine g_sipush cx d0_6 (v := (196 : Int32)) rfl ?_
    refine g_iloadN cx d0_9 rfl ?_
    refine g_ldcI cx d0_10 (hw _ (List.mem_of_getElem? (i := 0) rfl)) ?_
    refine g_iand cx d0_12 ?_
    refine g_bipush cx d0_13 (v := (13 : Int32)) rfl ?_
    refine g_irem cx d0_15 (by decide) ?_
    refine g_iadd cx d0_16 ?_
    refine g_istore cx d0_17 (Ls' := #[.val (.int a), .val (.int sel), .val (.int c1), .val (.int c2), .val (.int ((196 : Int32) + ((a &&& (2147483647 : Int32)) % (13 : Int32)))), .unset, .unset, .unset, .unset, .unset, .unset, .unset]) rfl ?_
    refine g_goto cx d0_19 ?_
    refine g_iconst cx d0_25 (v := (1 : Int32)) rfl ?_
    refine g_newarray cx (ad := "[C") (by decide) d0_26 (hw _ (List.mem_of_getElem? (i := 1) rfl)) (by decide) (cap := 1) (by decide) (by decide) (k' := 1) (n' := 1) rfl rfl (by decide) (by decide) (fun h329 b330 cA331 gb332 E333 X334 => ?_)
    have g_b330 : Z.heap.size ≤ b330 := by rw [gb332]; exact OL.2.1
    have OL := OL.ext E333
    have A_b330 : Arx Z h329 b330 cA331 .char (1 : Int32) [(.int (0 : Int32))] (.int (0 : Int32)) "[C" := X334.pad (pad_rep [] (.int (0 : Int32)) 1)
    refine g_astore cx d0_28 rfl (Ls' := #[.val (.int a), .val (.int sel), .val (.int c1), .val (.int c2), .val (.int ((196 : Int32) + ((a &&& (2147483647 : Int32)) % (13 : Int32)))), .val (.ref b330), .unset, .unset, .unset, .unset, .unset, .unset]) rfl ?_
    refine g_aload cx d0_30 rfl rfl ?_
    refine g_iconst cx d0_32 (v := (0 : Int32)) rfl ?_
    refine g_iloadN cx d0_33 rfl ?_
    refine g_sipush cx d0_34 (v := (255 : Int32)) rfl ?_
    refine g_iand cx d0_37 ?_
    refine g_i2c cx d0_38 ?_
    refine g_castore cx d0_39 A_b330 ⟨by decide, by decide⟩ (by decide) g_b330 (fun h335 W336 AA337 => ?_)
    have A_b330 : Arx Z h335 b330 cA331 .char (1 : Int32) [(.int (nar .char (((c1 &&& (255 : Int32))).toUInt32.toUInt16.toUInt32.toInt32)))] (.int (0 : Int32)) "[C" := AA337
    have OL := OL.wr W336 g_b330
    refine g_iconst cx d0_40 (v := (1 : Int32)) rfl ?_
    refine g_newarray cx (ad := "[C") (by decide) d0_41 (hw _ (List.mem_of_getElem? (i := 1) rfl)) (by decide) (cap := 1) (by decide) (by decide) (k' := 2) (n' := 2) rfl rfl (by decide) (by decide) (fun h338 b339 cA340 gb341 E342 X343 => ?_)
    have ne_b330_b339 : b330 ≠ b339 := Nat.ne_of_lt (by rw [gb341]; exact A_b330.lt)
    have g_b339 : Z.heap.size ≤ b339 := by rw [gb341]; exact OL.2.1
    have A_b330 := A_b330.ext E342
    have OL := OL.ext E342
    have A_b339 : Arx Z h338 b339 cA340 .char (1 : Int32) [(.int (0 : Int32))] (.int (0 : Int32)) "[C" := X343.pad (pad_rep [] (.int (0 : Int32)) 1)
    refine g_astore cx d0_43 rfl (Ls' := #[.val (.int a), .val (.int sel), .val (.int c1), .val (.int c2), .val (.int ((196 : Int32) + ((a &&& (2147483647 : Int32)) % (13 : Int32)))), .val (.ref b330), .val (.ref b339), .unset, .unset, .unset, .unset, .unset]) rfl ?_
    refine g_aload cx d0_45 rfl rfl ?_
    refine g_iconst cx d0_47 (v := (0 : Int32)) rfl ?_
    refine g_iloadN cx d0_48 rfl ?_
    refine g_sipush cx d0_49 (v := (255 : Int32)) rfl ?_
    refine g_iand cx d0_52 ?_
    refine g_i2c cx d0_53 ?_
    refine g_castore cx d0_54 A_b339 ⟨by decide, by decide⟩ (by decide) g_b339 (fun h344 W345 AA346 => ?_)
    have A_b330 := A_b330.other W345 ne_b330_b339
    have A_b339 : Arx Z h344 b339 cA340 .char (1 : Int32) [(.int (nar .char (((c2 &&& (255 : Int32))).toUInt32.toUInt16.toUInt32.toInt32)))] (.int (0 : Int32)) "[C" := AA346
    have OL := OL.wr W345 g_b339
    refine g_new cx d0_55 (hw _ (List.mem_of_getElem? (i := 2) rfl)) (hw _ (List.mem_of_getElem? (i := 3) rfl)) (hw _ (List.mem_of_getElem? (i := 4) rfl)) (k' := 3) (n' := 5) rfl rfl (by decide) (by decide) (fun h347 b348 gb349 E350 X351 D352 => ?_)
    have ne_b330_b348 : b330 ≠ b348 := Nat.ne_of_lt (by rw [gb349]; exact A_b330.lt)
    have ne_b339_b348 : b339 ≠ b348 := Nat.ne_of_lt (by rw [gb349]; exact A_b339.lt)
    have g_b348 : Z.heap.size ≤ b348 := by rw [gb349]; exact OL.2.1
    have A_b330 := A_b330.ext E350
    have A_b339 := A_b339.ext E350
    have OL := OL.ext E350
    have O_b348 := ObO.new hw X351 D352
    refine g_dup cx d0_58 rfl ?_
    refine g_iload cx d0_59 rfl ?_
    refine g_new cx d0_61 (hw _ (List.mem_of_getElem? (i := 5) rfl)) (hw _ (List.mem_of_getElem? (i := 6) rfl)) (hw _ (List.mem_of_getElem? (i := 7) rfl)) (k' := 4) (n' := 9) rfl rfl (by decide) (by decide) (fun h353 b354 gb355 E356 X357 D358 => ?_)
    have ne_b348_b354 : b348 ≠ b354 := Nat.ne_of_lt (by rw [gb355]; exact O_b348.lt)
    have ne_b330_b354 : b330 ≠ b354 := Nat.ne_of_lt (by rw [gb355]; exact A_b330.lt)
    have ne_b339_b354 : b339 ≠ b354 := Nat.ne_of_lt (by rw [gb355]; exact A_b339.lt)
    have g_b354 : Z.heap.size ≤ b354 := by rw [gb355]; exact OL.2.1
    have O_b348 := O_b348.ext E356
    have A_b330 := A_b330.ext E356
    have A_b339 := A_b339.ext E356
    have OL := OL.ext E356
    have O_b354 := ObS.new hw X357 D358
    refine g_dup cx d0_64 rfl ?_
    refine g_aload cx d0_65 rfl rfl ?_
    have lt_b354 := O_b354.lt
    refine g_special cx (y := (⟨"java/lang/String", "<init>", "([C)V"⟩ : MethodName)) (a := b354) d0_67 rfl rfl (hw _ (List.mem_of_getElem? (i := 8) rfl)) (hw _ (List.mem_of_getElem? (i := 9) rfl)) (hw _ (List.mem_of_getElem? (i := 7) rfl)) (hw _ (List.mem_of_getElem? (i := 10) rfl)) (by decide) (bytes := jdk_42_method_3_code) (maxL' := 2) (M := (ra1 l Z a0 hw b354 b330 c1 cA331 _ O_b354 A_b330 (Ne.symm ne_b330_b354) g_b354 g_b330 OL cs SCS ncs)) rfl (lenOf pd_4 rfl) (by decide) (W := 4) (Nat.le_of_eq rfl) (by decide) (k' := 5) (n' := 10) rfl rfl (by decide) (by decide) (argsL := [(.ref b330)]) (rest := [(.ref b354), (.int ((196 : Int32) + ((a &&& (2147483647 : Int32)) % (13 : Int32)))), (.ref b348), (.ref b348)]) rfl (fun v365 h364 q366 => ?_)
    obtain ⟨b359, cA360, hq361, hq362, rfl, K363, sq_b359, A_b359, O_b354⟩ := q366
    have ne_b348_b359 : b348 ≠ b359 := Nat.ne_of_lt (Nat.lt_of_lt_of_le O_b348.lt sq_b359)
    have ne_b354_b359 : b354 ≠ b359 := Nat.ne_of_lt (Nat.lt_of_lt_of_le lt_b354 sq_b359)
    have ne_b330_b359 : b330 ≠ b359 := Nat.ne_of_lt (Nat.lt_of_lt_of_le A_b330.lt sq_b359)
    have ne_b339_b359 : b339 ≠ b359 := Nat.ne_of_lt (Nat.lt_of_lt_of_le A_b339.lt sq_b359)
    have g_b359 : Z.heap.size ≤ b359 := Nat.le_trans OL.2.1 sq_b359
    have O_b348 := O_b348.keep K363 (ninS ne_b348_b354 nin0)
    have A_b330 := A_b330.keep K363 (ninS ne_b330_b354 nin0)
    have A_b339 := A_b339.keep K363 (ninS ne_b339_b354 nin0)
    have OL := OL.keep K363 (allS g_b354 all0)
    refine G.cast (st' := [(.ref b354), (.int ((196 : Int32) + ((a &&& (2147483647 : Int32)) % (13 : Int32)))), (.ref b348), (.ref b348)]) ?_ rfl
    refine g_new cx d0_70 (hw _ (List.mem_of_getElem? (i := 5) rfl)) (hw _ (List.mem_of_getElem? (i := 6) rfl)) (hw _ (List.mem_of_getElem? (i := 7) rfl)) (k' := 6) (n' := 14) rfl rfl (by decide) (by decide) (fun h367 b368 gb369 E370 X371 D372 => ?_)
    have ne_b348_b368 : b348 ≠ b368 := Nat.ne_of_lt (by rw [gb369]; exact O_b348.lt)
    have ne_b354_b368 : b354 ≠ b368 := Nat.ne_of_lt (by rw [gb369]; exact O_b354.lt)
    have ne_b330_b368 : b330 ≠ b368 := Nat.ne_of_lt (by rw [gb369]; exact A_b330.lt)
    have ne_b339_b368 : b339 ≠ b368 := Nat.ne_of_lt (by rw [gb369]; exact A_b339.lt)
    have ne_b359_b368 : b359 ≠ b368 := Nat.ne_of_lt (by rw [gb369]; exact A_b359.lt)
    have g_b368 : Z.heap.size ≤ b368 := by rw [gb369]; exact OL.2.1
    have O_b348 := O_b348.ext E370
    have O_b354 := O_b354.ext E370
    have A_b330 := A_b330.ext E370
    have A_b339 := A_b339.ext E370
    have A_b359 := A_b359.ext E370
    have OL := OL.ext E370
    have O_b368 := ObS.new hw X371 D372
    refine g_dup cx d0_73 rfl ?_
    refine g_aload cx d0_74 rfl rfl ?_
    have lt_b368 := O_b368.lt
    refine g_special cx (y := (⟨"java/lang/String", "<init>", "([C)V"⟩ : MethodName)) (a := b368) d0_76 rfl rfl (hw _ (List.mem_of_getElem? (i := 8) rfl)) (hw _ (List.mem_of_getElem? (i := 9) rfl)) (hw _ (List.mem_of_getElem? (i := 7) rfl)) (hw _ (List.mem_of_getElem? (i := 10) rfl)) (by decide) (bytes := jdk_42_method_3_code) (maxL' := 2) (M := (ra1 l Z a0 hw b368 b339 c2 cA340 _ O_b368 A_b339 (Ne.symm ne_b339_b368) g_b368 g_b339 OL cs SCS ncs)) rfl (lenOf pd_4 rfl) (by decide) (W := 5) (Nat.le_of_eq rfl) (by decide) (k' := 7) (n' := 15) rfl rfl (by decide) (by decide) (argsL := [(.ref b339)]) (rest := [(.ref b368), (.ref b354), (.int ((196 : Int32) + ((a &&& (2147483647 : Int32)) % (13 : Int32)))), (.ref b348), (.ref b348)]) rfl (fun v379 h378 q380 => ?_)
    obtain ⟨b373, cA374, hq375, hq376, rfl, K377, sq_b373, A_b373, O_b368⟩ := q380
    have ne_b348_b373 : b348 ≠ b373 := Nat.ne_of_lt (Nat.lt_of_lt_of_le O_b348.lt sq_b373)
    have ne_b354_b373 : b354 ≠ b373 := Nat.ne_of_lt (Nat.lt_of_lt_of_le O_b354.lt sq_b373)
    have ne_b368_b373 : b368 ≠ b373 := Nat.ne_of_lt (Nat.lt_of_lt_of_le lt_b368 sq_b373)
    have ne_b330_b373 : b330 ≠ b373 := Nat.ne_of_lt (Nat.lt_of_lt_of_le A_b330.lt sq_b373)
    have ne_b339_b373 : b339 ≠ b373 := Nat.ne_of_lt (Nat.lt_of_lt_of_le A_b339.lt sq_b373)
    have ne_b359_b373 : b359 ≠ b373 := Nat.ne_of_lt (Nat.lt_of_lt_of_le A_b359.lt sq_b373)
    have g_b373 : Z.heap.size ≤ b373 := Nat.le_trans OL.2.1 sq_b373
    have O_b348 := O_b348.keep K377 (ninS ne_b348_b368 nin0)
    have O_b354 := O_b354.keep K377 (ninS ne_b354_b368 nin0)
    have A_b330 := A_b330.keep K377 (ninS ne_b330_b368 nin0)
    have A_b339 := A_b339.keep K377 (ninS ne_b339_b368 nin0)
    have A_b359 := A_b359.keep K377 (ninS ne_b359_b368 nin0)
    have OL := OL.keep K377 (allS g_b368 all0)
    refine G.cast (st' := [(.ref b368), (.ref b354), (.int ((196 : Int32) + ((a &&& (2147483647 : Int32)) % (13 : Int32)))), (.ref b348), (.ref b348)]) ?_ rfl
    refine g_special cx (y := (⟨"com/example/egret/egret/service/Outcome", "<init>", "(ILjava/lang/String;Ljava/lang/String;)V"⟩ : MethodName)) (a := b348) d0_79 rfl rfl (hw _ (List.mem_of_getElem? (i := 34) rfl)) (hw _ (List.mem_of_getElem? (i := 35) rfl)) (hw _ (List.mem_of_getElem? (i := 4) rfl)) (hw _ (List.mem_of_getElem? (i := 36) rfl)) (by decide) (bytes := prog_13_method_1_code) (maxL' := 4) (M := (ra6 l Z a0 hw b348 b354 b359 b368 b373 ((196 : Int32) + ((a &&& (2147483647 : Int32)) % (13 : Int32))) (nar .byte (((nar .char (((c1 &&& (255 : Int32))).toUInt32.toUInt16.toUInt32.toInt32))).toInt8.toInt32)) (nar .byte (((nar .char (((c2 &&& (255 : Int32))).toUInt32.toUInt16.toUInt32.toInt32))).toInt8.toInt32)) cA360 cA374 _ O_b348 O_b354 O_b368 A_b359 A_b373 ne_b348_b354 ne_b348_b359 ne_b354_b359 ne_b348_b368 ne_b354_b368 ne_b359_b368 ne_b348_b373 ne_b354_b373 ne_b359_b373 ne_b368_b373 g_b348 g_b354 g_b359 g_b368 g_b373 OL cs SCS ncs)) rfl (lenOf pd_6 rfl) (by decide) (W := 1) (Nat.le_of_eq rfl) (by decide) (k' := 7) (n' := 15) rfl rfl (by decide) (by decide) (argsL := [(.int ((196 : Int32) + ((a &&& (2147483647 : Int32)) % (13 : Int32)))), (.ref b354), (.ref b368)]) (rest := [(.ref b348)]) rfl (fun v383 h382 q384 => ?_)
    obtain ⟨rfl, K381, O_b348⟩ := q384
    have O_b354 := O_b354.keep K381 (ninS (Ne.symm ne_b348_b354) nin0)
    have O_b368 := O_b368.keep K381 (ninS (Ne.symm ne_b348_b368) nin0)
    have A_b330 := A_b330.keep K381 (ninS ne_b330_b348 nin0)
    have A_b339 := A_b339.keep K381 (ninS ne_b339_b348 nin0)
    have A_b359 := A_b359.keep K381 (ninS (Ne.symm ne_b348_b359) nin0)
    have A_b373 := A_b373.keep K381 (ninS (Ne.symm ne_b348_b373) nin0)
    have OL := OL.keep K381 (allS g_b348 all0)
    refine G.cast (st' := [(.ref b348)]) ?_ rfl
    refine g_astore cx d0_82 rfl (Ls' := #[.val (.int a), .val (.int sel), .val (.int c1), .val (.int c2), .val (.int ((196 : Int32) + ((a &&& (2147483647 : Int32)) % (13 : Int32)))), .val (.ref b330), .val (.ref b339), .val (.ref b348), .unset, .unset, .unset, .unset]) rfl ?_
    refine g_aload cx d0_84 rfl rfl ?_
    refine g_virtual cx (y := (⟨"com/example/egret/egret/service/Outcome", "delivered", "()Z"⟩ : MethodName)) (z := (⟨"com/example/egret/egret/service/Outcome", "delivered", "()Z"⟩ : MethodName)) (a := b348) d0_86 (hw _ (List.mem_of_getElem? (i := 49) rfl)) (hw _ (List.mem_of_getElem? (i := 50) rfl)) (hw _ (List.mem_of_getElem? (i := 4) rfl)) (hw _ (List.mem_of_getElem? (i := 53) rfl)) (hw _ (List.mem_of_getElem? (i := 52) rfl)) (hw _ (List.mem_of_getElem? (i := 51) rfl)) rfl (by decide) O_b348.1 (bytes := prog_13_method_7_code) (maxL' := 1) (M := (ra7 l Z a0 hw b348 b354 b359 b368 b373 ((196 : Int32) + ((a &&& (2147483647 : Int32)) % (13 : Int32))) (nar .byte (((nar .char (((c1 &&& (255 : Int32))).toUInt32.toUInt16.toUInt32.toInt32))).toInt8.toInt32)) (nar .byte (((nar .char (((c2 &&& (255 : Int32))).toUInt32.toUInt16.toUInt32.toInt32))).toInt8.toInt32)) cA360 cA374 _ O_b348 O_b354 O_b368 A_b359 A_b373 ne_b348_b354 ne_b348_b359 ne_b354_b359 ne_b348_b368 ne_b354_b368 ne_b359_b368 ne_b348_b373 ne_b354_b373 ne_b359_b373 ne_b368_b373 g_b348 g_b354 g_b359 g_b368 g_b373 OL cs SCS ncs)) rfl (lenOf pd_7 rfl) (by decide) (W := 0) (Nat.le_of_eq rfl) (by decide) (k' := 7) (n' := 15) rfl rfl (by decide) (by decide) (argsL := []) (rest := []) rfl (fun v394 h393 q395 => ?_)
    rcases q395 with ⟨hq385, rfl, rfl⟩ | ⟨hq387, hq388, rfl, rfl⟩ | ⟨hq390, hq391, rfl, rfl⟩
    · refine G.cast (st' := [(.int (0 : Int32))]) ?_ rfl
      refine g_istore cx d0_89 (Ls' := #[.val (.int a), .val (.int sel), .val (.int c1), .val (.int c2), .val (.int ((196 : Int32) + ((a &&& (2147483647 : Int32)) % (13 : Int32)))), .val (.ref b330), .val (.ref b339), .val (.ref b348), .val (.int (0 : Int32)), .unset, .unset, .unset]) rfl ?_
      refine g_iload cx d0_91 rfl ?_
      refine g_i2l cx d0_93 ?_
      refine g_ldcJ cx d0_94 (hw _ (List.mem_of_getElem? (i := 54) rfl)) ?_
      refine g_lsub cx d0_97 ?_
      refine g_lstore cx d0_98 (Ls' := #[.val (.int a), .val (.int sel), .val (.int c1), .val (.int c2), .val (.int ((196 : Int32) + ((a &&& (2147483647 : Int32)) % (13 : Int32)))), .val (.ref b330), .val (.ref b339), .val (.ref b348), .val (.int (0 : Int32)), .val (.long (((((196 : Int32) + ((a &&& (2147483647 : Int32)) % (13 : Int32)))).toInt64) - (200 : Int64))), .second, .unset]) rfl ?_
      refine g_lload cx d0_100 rfl ?_
      refine g_lconst cx d0_102 (v := (0 : Int64)) rfl ?_
      refine g_lif_lt cx d0_103 d0_104 (fun hc104 => ?_) (fun hc104 => ?_)
      · refine g_iconst cx d0_120 (v := (0 : Int32)) rfl ?_
        refine g_istore cx d0_121 (Ls' := #[.val (.int a), .val (.int sel), .val (.int c1), .val (.int c2), .val (.int ((196 : Int32) + ((a &&& (2147483647 : Int32)) % (13 : Int32)))), .val (.ref b330), .val (.ref b339), .val (.ref b348), .val (.int (0 : Int32)), .val (.long (((((196 : Int32) + ((a &&& (2147483647 : Int32)) % (13 : Int32)))).toInt64) - (200 : Int64))), .second, .val (.int (0 : Int32))]) rfl ?_
        refine g_iload cx d0_123 rfl ?_
        refine g_iload cx d0_125 rfl ?_
        refine g_static cx (y := (⟨"com/example/egret/egret/service/OutcomeDeliveredPinLaw", "isSuccessStatus", "(I)Z"⟩ : MethodName)) d0_127 (hw _ (List.mem_of_getElem? (i := 55) rfl)) (hw _ (List.mem_of_getElem? (i := 56) rfl)) (hw _ (List.mem_of_getElem? (i := 57) rfl)) (hw _ (List.mem_of_getElem? (i := 58) rfl)) (by decide) (bytes := method_2_code) (maxL' := 1) (M := (ra8 l Z a0 hw ((196 : Int32) + ((a &&& (2147483647 : Int32)) % (13 : Int32))) _  OL cs SCS ncs)) rfl (lenOf pd_8 rfl) (by decide) (W := 1) (Nat.le_of_eq rfl) (by decide) (k' := 7) (n' := 15) rfl rfl (by decide) (by decide) (argsL := [(.int ((196 : Int32) + ((a &&& (2147483647 : Int32)) % (13 : Int32))))]) (rest := [(.int (0 : Int32))]) rfl (fun v423 h422 q424 => ?_)
        rcases q424 with ⟨hq396, rfl, rfl⟩ | ⟨hq398, hq399, rfl, rfl⟩ | ⟨hq401, hq402, hq403, rfl, rfl⟩ | ⟨hq405, hq406, hq407, hq408, rfl, rfl⟩ | ⟨hq410, hq411, hq412, hq413, hq414, rfl, rfl⟩ | ⟨hq416, hq417, hq418, hq419, hq420, rfl, rfl⟩
        · refine G.cast (st' := [(.int (1 : Int32)), (.int (0 : Int32))]) ?_ rfl
          refine g_icmp_ne cx d0_130 (fun hc130 => ?_) (fun q => absurd q (fun q => by revert q; decide))
          refine g_iconst cx d0_144 (v := (0 : Int32)) rfl ?_
          refine g_retZ cx d0_145 rfl rfl (by decide) (by decide) ?_
          exfalso
          have i_hc3 : ¬ ((sel &&& (1 : Int32))).toInt = ((0 : Int32)).toInt := fun z => hc3 (Int32.toInt_inj.mp z)
          have i_hq361 : ¬ (cs).toInt = ((0 : Int32)).toInt := fun z => hq361 (Int32.toInt_inj.mp z)
          have i_hq362 : ¬ ((255 : Int32)).toInt < ((nar .char (((c1 &&& (255 : Int32))).toUInt32.toUInt16.toUInt32.toInt32))).toInt := fun z => hq362 (Int32.lt_iff_toInt_lt.mpr z)
          have i_hq375 : ¬ (cs).toInt = ((0 : Int32)).toInt := fun z => hq375 (Int32.toInt_inj.mp z)
          have i_hq376 : ¬ ((255 : Int32)).toInt < ((nar .char (((c2 &&& (255 : Int32))).toUInt32.toUInt16.toUInt32.toInt32))).toInt := fun z => hq376 (Int32.lt_iff_toInt_lt.mpr z)
          have i_hq385 : (((196 : Int32) + ((a &&& (2147483647 : Int32)) % (13 : Int32)))).toInt < ((200 : Int32)).toInt := Int32.lt_iff_toInt_lt.mp hq385
          have i_hc104 : ((((((196 : Int32) + ((a &&& (2147483647 : Int32)) % (13 : Int32)))).toInt64) - (200 : Int64))).toInt < ((0 : Int64)).toInt := Int64.lt_iff_toInt_lt.mp hc104
          have i_hq396 : (((196 : Int32) + ((a &&& (2147483647 : Int32)) % (13 : Int32)))).toInt = ((200 : Int32)).toInt := congrArg Int32.toInt hq396
          have i_hc130 : ¬ ((0 : Int32)).toInt = ((1 : Int32)).toInt := fun z => hc130 (Int32.toInt_inj.mp z)
          have r2 := rng32 sel
          have e1 : ((sel &&& (1 : Int32))).toInt = (sel).toInt % 2 := c_mask sel (1 : Int32) 1 (by decide) (by decide)
          have e3 : (0 : Int32).toInt = 0 := rfl
          have r4 := rng32 cs
          have e5 : (255 : Int32).toInt = 255 := rfl
          have r9 := rng32 c1
          have e8 : ((c1 &&& (255 : Int32))).toInt = (c1).toInt % 256 := c_mask c1 (255 : Int32) 8 (by decide) (by decide)
          have e7 := c_i2c (c1 &&& (255 : Int32))
          have e6 : (((nar .char (((c1 &&& (255 : Int32))).toUInt32.toUInt16.toUInt32.toInt32))).toInt - ((((c1 &&& (255 : Int32))).toUInt32.toUInt16.toUInt32.toInt32)).toInt) % 65536 = 0 ∧ 0 ≤ ((nar .char (((c1 &&& (255 : Int32))).toUInt32.toUInt16.toUInt32.toInt32))).toInt ∧ ((nar .char (((c1 &&& (255 : Int32))).toUInt32.toUInt16.toUInt32.toInt32))).toInt < 65536 := c_i2c (((c1 &&& (255 : Int32))).toUInt32.toUInt16.toUInt32.toInt32)
          have r13 := rng32 c2
          have e12 : ((c2 &&& (255 : Int32))).toInt = (c2).toInt % 256 := c_mask c2 (255 : Int32) 8 (by decide) (by decide)
          have e11 := c_i2c (c2 &&& (255 : Int32))
          have e10 : (((nar .char (((c2 &&& (255 : Int32))).toUInt32.toUInt16.toUInt32.toInt32))).toInt - ((((c2 &&& (255 : Int32))).toUInt32.toUInt16.toUInt32.toInt32)).toInt) % 65536 = 0 ∧ 0 ≤ ((nar .char (((c2 &&& (255 : Int32))).toUInt32.toUInt16.toUInt32.toInt32))).toInt ∧ ((nar .char (((c2 &&& (255 : Int32))).toUInt32.toUInt16.toUInt32.toInt32))).toInt < 65536 := c_i2c (((c2 &&& (255 : Int32))).toUInt32.toUInt16.toUInt32.toInt32)
          have e15 : (196 : Int32).toInt = 196 := rfl
          have r18 := rng32 a
          have e17 : ((a &&& (2147483647 : Int32))).toInt = (a).toInt % 2147483648 := c_mask a (2147483647 : Int32) 31 (by decide) (by decide)
          have e16 : (0 ≤ ((a &&& (2147483647 : Int32))).toInt → (((a &&& (2147483647 : Int32)) % (13 : Int32))).toInt = ((a &&& (2147483647 : Int32))).toInt % 13) ∧ (((a &&& (2147483647 : Int32))).toInt < 0 → (((a &&& (2147483647 : Int32)) % (13 : Int32))).toInt = -((-((a &&& (2147483647 : Int32))).toInt) % 13)) := c_irem (a &&& (2147483647 : Int32)) (13 : Int32) 13 rfl
          have e14 := c_iadd (196 : Int32) ((a &&& (2147483647 : Int32)) % (13 : Int32))
          have r14 := rng32 ((196 : Int32) + ((a &&& (2147483647 : Int32)) % (13 : Int32)))
          have e19 : (200 : Int32).toInt = 200 := rfl
          have e21 := c_i2l ((196 : Int32) + ((a &&& (2147483647 : Int32)) % (13 : Int32)))
          have e22 : (200 : Int64).toInt = 200 := rfl
          have e20 := c_lsub ((((196 : Int32) + ((a &&& (2147483647 : Int32)) % (13 : Int32)))).toInt64) (200 : Int64)
          have r20 := rng64 (((((196 : Int32) + ((a &&& (2147483647 : Int32)) % (13 : Int32)))).toInt64) - (200 : Int64))
          have e23 : (0 : Int64).toInt = 0 := rfl
          have e24 : (1 : Int32).toInt = 1 := rfl
          omega
        · refine G.cast (st' := [(.int (1 : Int32)), (.int (0 : Int32))]) ?_ rfl
          refine g_icmp_ne cx d0_130 (fun hc130 => ?_) (fun q => absurd q (fun q => by revert q; decide))
          refine g_iconst cx d0_144 (v := (0 : Int32)) rfl ?_
          refine g_retZ cx d0_145 rfl rfl (by decide) (by decide) ?_
          exfalso
          have i_hc3 : ¬ ((sel &&& (1 : Int32))).toInt = ((0 : Int32)).toInt := fun z => hc3 (Int32.toInt_inj.mp z)
          have i_hq361 : ¬ (cs).toInt = ((0 : Int32)).toInt := fun z => hq361 (Int32.toInt_inj.mp z)
          have i_hq362 : ¬ ((255 : Int32)).toInt < ((nar .char (((c1 &&& (255 : Int32))).toUInt32.toUInt16.toUInt32.toInt32))).toInt := fun z => hq362 (Int32.lt_iff_toInt_lt.mpr z)
          have i_hq375 : ¬ (cs).toInt = ((0 : Int32)).toInt := fun z => hq375 (Int32.toInt_inj.mp z)
          have i_hq376 : ¬ ((255 : Int32)).toInt < ((nar .char (((c2 &&& (255 : Int32))).toUInt32.toUInt16.toUInt32.toInt32))).toInt := fun z => hq376 (Int32.lt_iff_toInt_lt.mpr z)
          have i_hq385 : (((196 : Int32) + ((a &&& (2147483647 : Int32)) % (13 : Int32)))).toInt < ((200 : Int32)).toInt := Int32.lt_iff_toInt_lt.mp hq385
          have i_hc104 : ((((((196 : Int32) + ((a &&& (2147483647 : Int32)) % (13 : Int32)))).toInt64) - (200 : Int64))).toInt < ((0 : Int64)).toInt := Int64.lt_iff_toInt_lt.mp hc104
          have i_hq398 : ¬ (((196 : Int32) + ((a &&& (2147483647 : Int32)) % (13 : Int32)))).toInt = ((200 : Int32)).toInt := fun z => hq398 (Int32.toInt_inj.mp z)
          have i_hq399 : (((196 : Int32) + ((a &&& (2147483647 : Int32)) % (13 : Int32)))).toInt = ((201 : Int32)).toInt := congrArg Int32.toInt hq399
          have i_hc130 : ¬ ((0 : Int32)).toInt = ((1 : Int32)).toInt := fun z => hc130 (Int32.toInt_inj.mp z)
          have r2 := rng32 sel
          have e1 : ((sel &&& (1 : Int32))).toInt = (sel).toInt % 2 := c_mask sel (1 : Int32) 1 (by decide) (by decide)
          have e3 : (0 : Int32).toInt = 0 := rfl
          have r4 := rng32 cs
          have e5 : (255 : Int32).toInt = 255 := rfl
          have r9 := rng32 c1
          have e8 : ((c1 &&& (255 : Int32))).toInt = (c1).toInt % 256 := c_mask c1 (255 : Int32) 8 (by decide) (by decide)
          have e7 := c_i2c (c1 &&& (255 : Int32))
          have e6 : (((nar .char (((c1 &&& (255 : Int32))).toUInt32.toUInt16.toUInt32.toInt32))).toInt - ((((c1 &&& (255 : Int32))).toUInt32.toUInt16.toUInt32.toInt32)).toInt) % 65536 = 0 ∧ 0 ≤ ((nar .char (((c1 &&& (255 : Int32))).toUInt32.toUInt16.toUInt32.toInt32))).toInt ∧ ((nar .char (((c1 &&& (255 : Int32))).toUInt32.toUInt16.toUInt32.toInt32))).toInt < 65536 := c_i2c (((c1 &&& (255 : Int32))).toUInt32.toUInt16.toUInt32.toInt32)
          have r13 := rng32 c2
          have e12 : ((c2 &&& (255 : Int32))).toInt = (c2).toInt % 256 := c_mask c2 (255 : Int32) 8 (by decide) (by decide)
          have e11 := c_i2c (c2 &&& (255 : Int32))
          have e10 : (((nar .char (((c2 &&& (255 : Int32))).toUInt32.toUInt16.toUInt32.toInt32))).toInt - ((((c2 &&& (255 : Int32))).toUInt32.toUInt16.toUInt32.toInt32)).toInt) % 65536 = 0 ∧ 0 ≤ ((nar .char (((c2 &&& (255 : Int32))).toUInt32.toUInt16.toUInt32.toInt32))).toInt ∧ ((nar .char (((c2 &&& (255 : Int32))).toUInt32.toUInt16.toUInt32.toInt32))).toInt < 65536 := c_i2c (((c2 &&& (255 : Int32))).toUInt32.toUInt16.toUInt32.toInt32)
          have e15 : (196 : Int32).toInt = 196 := rfl
          have r18 := rng32 a
          have e17 : ((a &&& (2147483647 : Int32))).toInt = (a).toInt % 2147483648 := c_mask a (2147483647 : Int32) 31 (by decide) (by decide)
          have e16 : (0 ≤ ((a &&& (2147483647 : Int32))).toInt → (((a &&& (2147483647 : Int32)) % (13 : Int32))).toInt = ((a &&& (2147483647 : Int32))).toInt % 13) ∧ (((a &&& (2147483647 : Int32))).toInt < 0 → (((a &&& (2147483647 : Int32)) % (13 : Int32))).toInt = -((-((a &&& (2147483647 : Int32))).toInt) % 13)) := c_irem (a &&& (2147483647 : Int32)) (13 : Int32) 13 rfl
          have e14 := c_iadd (196 : Int32) ((a &&& (2147483647 : Int32)) % (13 : Int32))
          have r14 := rng32 ((196 : Int32) + ((a &&& (2147483647 : Int32)) % (13 : Int32)))
          have e19 : (200 : Int32).toInt = 200 := rfl
          have e21 := c_i2l ((196 : Int32) + ((a &&& (2147483647 : Int32)) % (13 : Int32)))
          have e22 : (200 : Int64).toInt = 200 := rfl
          have e20 := c_lsub ((((196 : Int32) + ((a &&& (2147483647 : Int32)) % (13 : Int32)))).toInt64) (200 : Int64)
          have r20 := rng64 (((((196 : Int32) + ((a &&& (2147483647 : Int32)) % (13 : Int32)))).toInt64) - (200 : Int64))
          have e23 : (0 : Int64).toInt = 0 := rfl
          have e24 : (201 : Int32).toInt = 201 := rfl
          have e25 : (1 : Int32).toInt = 1 := rfl
          omega
        · refine G.cast (st' := [(.int (1 : Int32)), (.int (0 : Int32))]) ?_ rfl
          refine g_icmp_ne cx d0_130 (fun hc130 => ?_) (fun q => absurd q (fun q => by revert q; decide))
          refine g_iconst cx d0_144 (v := (0 : Int32)) rfl ?_
          refine g_retZ cx d0_145 rfl rfl (by decide) (by decide) ?_
          exfalso
          have i_hc3 : ¬ ((sel &&& (1 : Int32))).toInt = ((0 : Int32)).toInt := fun z => hc3 (Int32.toInt_inj.mp z)
          have i_hq361 : ¬ (cs).toInt = ((0 : Int32)).toInt := fun z => hq361 (Int32.toInt_inj.mp z)
          have i_hq362 : ¬ ((255 : Int32)).toInt < ((nar .char (((c1 &&& (255 : Int32))).toUInt32.toUInt16.toUInt32.toInt32))).toInt := fun z => hq362 (Int32.lt_iff_toInt_lt.mpr z)
          have i_hq375 : ¬ (cs).toInt = ((0 : Int32)).toInt := fun z => hq375 (Int32.toInt_inj.mp z)
          have i_hq376 : ¬ ((255 : Int32)).toInt < ((nar .char (((c2 &&& (255 : Int32))).toUInt32.toUInt16.toUInt32.toInt32))).toInt := fun z => hq376 (Int32.lt_iff_toInt_lt.mpr z)
          have i_hq385 : (((196 : Int32) + ((a &&& (2147483647 : Int32)) % (13 : Int32)))).toInt < ((200 : Int32)).toInt := Int32.lt_iff_toInt_lt.mp hq385
          have i_hc104 : ((((((196 : Int32) + ((a &&& (2147483647 : Int32)) % (13 : Int32)))).toInt64) - (200 : Int64))).toInt < ((0 : Int64)).toInt := Int64.lt_iff_toInt_lt.mp hc104
          have i_hq401 : ¬ (((196 : Int32) + ((a &&& (2147483647 : Int32)) % (13 : Int32)))).toInt = ((200 : Int32)).toInt := fun z => hq401 (Int32.toInt_inj.mp z)
          have i_hq402 : ¬ (((196 : Int32) + ((a &&& (2147483647 : Int32)) % (13 : Int32)))).toInt = ((201 : Int32)).toInt := fun z => hq402 (Int32.toInt_inj.mp z)
          have i_hq403 : (((196 : Int32) + ((a &&& (2147483647 : Int32)) % (13 : Int32)))).toInt = ((202 : Int32)).toInt := congrArg Int32.toInt hq403
          have i_hc130 : ¬ ((0 : Int32)).toInt = ((1 : Int32)).toInt := fun z => hc130 (Int32.toInt_inj.mp z)
          have r2 := rng32 sel
          have e1 : ((sel &&& (1 : Int32))).toInt = (sel).toInt % 2 := c_mask sel (1 : Int32) 1 (by decide) (by decide)
          have e3 : (0 : Int32).toInt = 0 := rfl
          have r4 := rng32 cs
          have e5 : (255 : Int32).toInt = 255 := rfl
          have r9 := rng32 c1
          have e8 : ((c1 &&& (255 : Int32))).toInt = (c1).toInt % 256 := c_mask c1 (255 : Int32) 8 (by decide) (by decide)
          have e7 := c_i2c (c1 &&& (255 : Int32))
          have e6 : (((nar .char (((c1 &&& (255 : Int32))).toUInt32.toUInt16.toUInt32.toInt32))).toInt - ((((c1 &&& (255 : Int32))).toUInt32.toUInt16.toUInt32.toInt32)).toInt) % 65536 = 0 ∧ 0 ≤ ((nar .char (((c1 &&& (255 : Int32))).toUInt32.toUInt16.toUInt32.toInt32))).toInt ∧ ((nar .char (((c1 &&& (255 : Int32))).toUInt32.toUInt16.toUInt32.toInt32))).toInt < 65536 := c_i2c (((c1 &&& (255 : Int32))).toUInt32.toUInt16.toUInt32.toInt32)
          have r13 := rng32 c2
          have e12 : ((c2 &&& (255 : Int32))).toInt = (c2).toInt % 256 := c_mask c2 (255 : Int32) 8 (by decide) (by decide)
          have e11 := c_i2c (c2 &&& (255 : Int32))
          have e10 : (((nar .char (((c2 &&& (255 : Int32))).toUInt32.toUInt16.toUInt32.toInt32))).toInt - ((((c2 &&& (255 : Int32))).toUInt32.toUInt16.toUInt32.toInt32)).toInt) % 65536 = 0 ∧ 0 ≤ ((nar .char (((c2 &&& (255 : Int32))).toUInt32.toUInt16.toUInt32.toInt32))).toInt ∧ ((nar .char (((c2 &&& (255 : Int32))).toUInt32.toUInt16.toUInt32.toInt32))).toInt < 65536 := c_i2c (((c2 &&& (255 : Int32))).toUInt32.toUInt16.toUInt32.toInt32)
          have e15 : (196 : Int32).toInt = 196 := rfl
          have r18 := rng32 a
          have e17 : ((a &&& (2147483647 : Int32))).toInt = (a).toInt % 2147483648 := c_mask a (2147483647 : Int32) 31 (by decide) (by decide)
          have e16 : (0 ≤ ((a &&& (2147483647 : Int32))).toInt → (((a &&& (2147483647 : Int32)) % (13 : Int32))).toInt = ((a &&& (2147483647 : Int32))).toInt % 13) ∧ (((a &&& (2147483647 : Int32))).toInt < 0 → (((a &&& (2147483647 : Int32)) % (13 : Int32))).toInt = -((-((a &&& (2147483647 : Int32))).toInt) % 13)) := c_irem (a &&& (2147483647 : Int32)) (13 : Int32) 13 rfl
          have e14 := c_iadd (196 : Int32) ((a &&& (2147483647 : Int32)) % (13 : Int32))
          have r14 := rng32 ((196 : Int32) + ((a &&& (2147483647 : Int32)) % (13 : Int32)))
          have e19 : (200 : Int32).toInt = 200 := rfl
          have e21 := c_i2l ((196 : Int32) + ((a &&& (2147483647 : Int32)) % (13 : Int32)))
          have e22 : (200 : Int64).toInt = 200 := rfl
          have e20 := c_lsub ((((196 : Int32) + ((a &&& (2147483647 : Int32)) % (13 : Int32)))).toInt64) (200 : Int64)
          have r20 := rng64 (((((196 : Int32) + ((a &&& (2147483647 : Int32)) % (13 : Int32)))).toInt64) - (200 : Int64))
          have e23 : (0 : Int64).toInt = 0 := rfl
          have e24 : (201 : Int32).toInt = 201 := rfl
          have e25 : (202 : Int32).toInt = 202 := rfl
          have e26 : (1 : Int32).toInt = 1 := rfl
          omega
        · refine G.cast (st' := [(.int (1 : Int32)), (.int (0 : Int32))]) ?_ rfl
          refine g_icmp_ne cx d0_130 (fun hc130 => ?_) (fun q => absurd q (fun q => by revert q; decide))
          refine g_iconst cx d0_144 (v := (0 : Int32)) rfl ?_
          refine g_retZ cx d0_145 rfl rfl (by decide) (by decide) ?_
          exfalso
          have i_hc3 : ¬ ((sel &&& (1 : Int32))).toInt = ((0 : Int32)).toInt := fun z => hc3 (Int32.toInt_inj.mp z)
          have i_hq361 : ¬ (cs).toInt = ((0 : Int32)).toInt := fun z => hq361 (Int32.toInt_inj.mp z)
          have i_hq362 : ¬ ((255 : Int32)).toInt < ((nar .char (((c1 &&& (255 : Int32))).toUInt32.toUInt16.toUInt32.toInt32))).toInt := fun z => hq362 (Int32.lt_iff_toInt_lt.mpr z)
          have i_hq375 : ¬ (cs).toInt = ((0 : Int32)).toInt := fun z => hq375 (Int32.toInt_inj.mp z)
          have i_hq376 : ¬ ((255 : Int32)).toInt < ((nar .char (((c2 &&& (255 : Int32))).toUInt32.toUInt16.toUInt32.toInt32))).toInt := fun z => hq376 (Int32.lt_iff_toInt_lt.mpr z)
          have i_hq385 : (((196 : Int32) + ((a &&& (2147483647 : Int32)) % (13 : Int32)))).toInt < ((200 : Int32)).toInt := Int32.lt_iff_toInt_lt.mp hq385
          have i_hc104 : ((((((196 : Int32) + ((a &&& (2147483647 : Int32)) % (13 : Int32)))).toInt64) - (200 : Int64))).toInt < ((0 : Int64)).toInt := Int64.lt_iff_toInt_lt.mp hc104
          have i_hq405 : ¬ (((196 : Int32) + ((a &&& (2147483647 : Int32)) % (13 : Int32)))).toInt = ((200 : Int32)).toInt := fun z => hq405 (Int32.toInt_inj.mp z)
          have i_hq406 : ¬ (((196 : Int32) + ((a &&& (2147483647 : Int32)) % (13 : Int32)))).toInt = ((201 : Int32)).toInt := fun z => hq406 (Int32.toInt_inj.mp z)
          have i_hq407 : ¬ (((196 : Int32) + ((a &&& (2147483647 : Int32)) % (13 : Int32)))).toInt = ((202 : Int32)).toInt := fun z => hq407 (Int32.toInt_inj.mp z)
          have i_hq408 : (((196 : Int32) + ((a &&& (2147483647 : Int32)) % (13 : Int32)))).toInt = ((203 : Int32)).toInt := congrArg Int32.toInt hq408
          have i_hc130 : ¬ ((0 : Int32)).toInt = ((1 : Int32)).toInt := fun z => hc130 (Int32.toInt_inj.mp z)
          have r2 := rng32 sel
          have e1 : ((sel &&& (1 : Int32))).toInt = (sel).toInt % 2 := c_mask sel (1 : Int32) 1 (by decide) (by decide)
          have e3 : (0 : Int32).toInt = 0 := rfl
          have r4 := rng32 cs
          have e5 : (255 : Int32).toInt = 255 := rfl
          have r9 := rng32 c1
          have e8 : ((c1 &&& (255 : Int32))).toInt = (c1).toInt % 256 := c_mask c1 (255 : Int32) 8 (by decide) (by decide)
          have e7 := c_i2c (c1 &&& (255 : Int32))
          have e6 : (((nar .char (((c1 &&& (255 : Int32))).toUInt32.toUInt16.toUInt32.toInt32))).toInt - ((((c1 &&& (255 : Int32))).toUInt32.toUInt16.toUInt32.toInt32)).toInt) % 65536 = 0 ∧ 0 ≤ ((nar .char (((c1 &&& (255 : Int32))).toUInt32.toUInt16.toUInt32.toInt32))).toInt ∧ ((nar .char (((c1 &&& (255 : Int32))).toUInt32.toUInt16.toUInt32.toInt32))).toInt < 65536 := c_i2c (((c1 &&& (255 : Int32))).toUInt32.toUInt16.toUInt32.toInt32)
          have r13 := rng32 c2
          have e12 : ((c2 &&& (255 : Int32))).toInt = (c2).toInt % 256 := c_mask c2 (255 : Int32) 8 (by decide) (by decide)
          have e11 := c_i2c (c2 &&& (255 : Int32))
          have e10 : (((nar .char (((c2 &&& (255 : Int32))).toUInt32.toUInt16.toUInt32.toInt32))).toInt - ((((c2 &&& (255 : Int32))).toUInt32.toUInt16.toUInt32.toInt32)).toInt) % 65536 = 0 ∧ 0 ≤ ((nar .char (((c2 &&& (255 : Int32))).toUInt32.toUInt16.toUInt32.toInt32))).toInt ∧ ((nar .char (((c2 &&& (255 : Int32))).toUInt32.toUInt16.toUInt32.toInt32))).toInt < 65536 := c_i2c (((c2 &&& (255 : Int32))).toUInt32.toUInt16.toUInt32.toInt32)
          have e15 : (196 : Int32).toInt = 196 := rfl
          have r18 := rng32 a
          have e17 : ((a &&& (2147483647 : Int32))).toInt = (a).toInt % 2147483648 := c_mask a (2147483647 : Int32) 31 (by decide) (by decide)
          have e16 : (0 ≤ ((a &&& (2147483647 : Int32))).toInt → (((a &&& (2147483647 : Int32)) % (13 : Int32))).toInt = ((a &&& (2147483647 : Int32))).toInt % 13) ∧ (((a &&& (2147483647 : Int32))).toInt < 0 → (((a &&& (2147483647 : Int32)) % (13 : Int32))).toInt = -((-((a &&& (2147483647 : Int32))).toInt) % 13)) := c_irem (a &&& (2147483647 : Int32)) (13 : Int32) 13 rfl
          have e14 := c_iadd (196 : Int32) ((a &&& (2147483647 : Int32)) % (13 : Int32))
          have r14 := rng32 ((196 : Int32) + ((a &&& (2147483647 : Int32)) % (13 : Int32)))
          have e19 : (200 : Int32).toInt = 200 := rfl
          have e21 := c_i2l ((196 : Int32) + ((a &&& (2147483647 : Int32)) % (13 : Int32)))
          have e22 : (200 : Int64).toInt = 200 := rfl
          have e20 := c_lsub ((((196 : Int32) + ((a &&& (2147483647 : Int32)) % (13 : Int32)))).toInt64) (200 : Int64)
          have r20 := rng64 (((((196 : Int32) + ((a &&& (2147483647 : Int32)) % (13 : Int32)))).toInt64) - (200 : Int64))
          have e23 : (0 : Int64).toInt = 0 := rfl
          have e24 : (201 : Int32).toInt = 201 := rfl
          have e25 : (202 : Int32).toInt = 202 := rfl
          have e26 : (203 : Int32).toInt = 203 := rfl
          have e27 : (1 : Int32).toInt = 1 := rfl
          omega
        · refine G.cast (st' := [(.int (0 : Int32)), (.int (0 : Int32))]) ?_ rfl
          refine g_icmp_ne cx d0_130 (fun q => absurd q (fun q => by revert q; decide)) (fun hc130 => ?_)
          refine g_iload cx d0_133 rfl ?_
          refine g_iload cx d0_135 rfl ?_
          refine g_icmp_ne cx d0_137 (fun q => absurd q (fun q => by revert q; decide)) (fun hc137 => ?_)
          refine g_iconst cx d0_140 (v := (1 : Int32)) rfl ?_
          refine g_goto cx d0_141 ?_
          refine g_retZ cx d0_145 rfl rfl (by decide) (by decide) ?_
          rfl
        · refine G.cast (st' := [(.int (1 : Int32)), (.int (0 : Int32))]) ?_ rfl
          refine g_icmp_ne cx d0_130 (fun hc130 => ?_) (fun q => absurd q (fun q => by revert q; decide))
          refine g_iconst cx d0_144 (v := (0 : Int32)) rfl ?_
          refine g_retZ cx d0_145 rfl rfl (by decide) (by decide) ?_
          exfalso
          have i_hc3 : ¬ ((sel &&& (1 : Int32))).toInt = ((0 : Int32)).toInt := fun z => hc3 (Int32.toInt_inj.mp z)
          have i_hq361 : ¬ (cs).toInt = ((0 : Int32)).toInt := fun z => hq361 (Int32.toInt_inj.mp z)
          have i_hq362 : ¬ ((255 : Int32)).toInt < ((nar .char (((c1 &&& (255 : Int32))).toUInt32.toUInt16.toUInt32.toInt32))).toInt := fun z => hq362 (Int32.lt_iff_toInt_lt.mpr z)
          have i_hq375 : ¬ (cs).toInt = ((0 : Int32)).toInt := fun z => hq375 (Int32.toInt_inj.mp z)
          have i_hq376 : ¬ ((255 : Int32)).toInt < ((nar .char (((c2 &&& (255 : Int32))).toUInt32.toUInt16.toUInt32.toInt32))).toInt := fun z => hq376 (Int32.lt_iff_toInt_lt.mpr z)
          have i_hq385 : (((196 : Int32) + ((a &&& (2147483647 : Int32)) % (13 : Int32)))).toInt < ((200 : Int32)).toInt := Int32.lt_iff_toInt_lt.mp hq385
          have i_hc104 : ((((((196 : Int32) + ((a &&& (2147483647 : Int32)) % (13 : Int32)))).toInt64) - (200 : Int64))).toInt < ((0 : Int64)).toInt := Int64.lt_iff_toInt_lt.mp hc104
          have i_hq416 : ¬ (((196 : Int32) + ((a &&& (2147483647 : Int32)) % (13 : Int32)))).toInt = ((200 : Int32)).toInt := fun z => hq416 (Int32.toInt_inj.mp z)
          have i_hq417 : ¬ (((196 : Int32) + ((a &&& (2147483647 : Int32)) % (13 : Int32)))).toInt = ((201 : Int32)).toInt := fun z => hq417 (Int32.toInt_inj.mp z)
          have i_hq418 : ¬ (((196 : Int32) + ((a &&& (2147483647 : Int32)) % (13 : Int32)))).toInt = ((202 : Int32)).toInt := fun z => hq418 (Int32.toInt_inj.mp z)
          have i_hq419 : ¬ (((196 : Int32) + ((a &&& (2147483647 : Int32)) % (13 : Int32)))).toInt = ((203 : Int32)).toInt := fun z => hq419 (Int32.toInt_inj.mp z)
          have i_hq420 : (((196 : Int32) + ((a &&& (2147483647 : Int32)) % (13 : Int32)))).toInt = ((204 : Int32)).toInt := congrArg Int32.toInt hq420
          have i_hc130 : ¬ ((0 : Int32)).toInt = ((1 : Int32)).toInt := fun z => hc130 (Int32.toInt_inj.mp z)
          have r2 := rng32 sel
          have e1 : ((sel &&& (1 : Int32))).toInt = (sel).toInt % 2 := c_mask sel (1 : Int32) 1 (by decide) (by decide)
          have e3 : (0 : Int32).toInt = 0 := rfl
          have r4 := rng32 cs
          have e5 : (255 : Int32).toInt = 255 := rfl
          have r9 := rng32 c1
          have e8 : ((c1 &&& (255 : Int32))).toInt = (c1).toInt % 256 := c_mask c1 (255 : Int32) 8 (by decide) (by decide)
          have e7 := c_i2c (c1 &&& (255 : Int32))
          have e6 : (((nar .char (((c1 &&& (255 : Int32))).toUInt32.toUInt16.toUInt32.toInt32))).toInt - ((((c1 &&& (255 : Int32))).toUInt32.toUInt16.toUInt32.toInt32)).toInt) % 65536 = 0 ∧ 0 ≤ ((nar .char (((c1 &&& (255 : Int32))).toUInt32.toUInt16.toUInt32.toInt32))).toInt ∧ ((nar .char (((c1 &&& (255 : Int32))).toUInt32.toUInt16.toUInt32.toInt32))).toInt < 65536 := c_i2c (((c1 &&& (255 : Int32))).toUInt32.toUInt16.toUInt32.toInt32)
          have r13 := rng32 c2
          have e12 : ((c2 &&& (255 : Int32))).toInt = (c2).toInt % 256 := c_mask c2 (255 : Int32) 8 (by decide) (by decide)
          have e11 := c_i2c (c2 &&& (255 : Int32))
          have e10 : (((nar .char (((c2 &&& (255 : Int32))).toUInt32.toUInt16.toUInt32.toInt32))).toInt - ((((c2 &&& (255 : Int32))).toUInt32.toUInt16.toUInt32.toInt32)).toInt) % 65536 = 0 ∧ 0 ≤ ((nar .char (((c2 &&& (255 : Int32))).toUInt32.toUInt16.toUInt32.toInt32))).toInt ∧ ((nar .char (((c2 &&& (255 : Int32))).toUInt32.toUInt16.toUInt32.toInt32))).toInt < 65536 := c_i2c (((c2 &&& (255 : Int32))).toUInt32.toUInt16.toUInt32.toInt32)
          have e15 : (196 : Int32).toInt = 196 := rfl
          have r18 := rng32 a
          have e17 : ((a &&& (2147483647 : Int32))).toInt = (a).toInt % 2147483648 := c_mask a (2147483647 : Int32) 31 (by decide) (by decide)
          have e16 : (0 ≤ ((a &&& (2147483647 : Int32))).toInt → (((a &&& (2147483647 : Int32)) % (13 : Int32))).toInt = ((a &&& (2147483647 : Int32))).toInt % 13) ∧ (((a &&& (2147483647 : Int32))).toInt < 0 → (((a &&& (2147483647 : Int32)) % (13 : Int32))).toInt = -((-((a &&& (2147483647 : Int32))).toInt) % 13)) := c_irem (a &&& (2147483647 : Int32)) (13 : Int32) 13 rfl
          have e14 := c_iadd (196 : Int32) ((a &&& (2147483647 : Int32)) % (13 : Int32))
          have r14 := rng32 ((196 : Int32) + ((a &&& (2147483647 : Int32)) % (13 : Int32)))
          have e19 : (200 : Int32).toInt = 200 := rfl
          have e21 := c_i2l ((196 : Int32) + ((a &&& (2147483647 : Int32)) % (13 : Int32)))
          have e22 : (200 : Int64).toInt = 200 := rfl
          have e20 := c_lsub ((((196 : Int32) + ((a &&& (2147483647 : Int32)) % (13 : Int32)))).toInt64) (200 : Int64)
          have r20 := rng64 (((((196 : Int32) + ((a &&& (2147483647 : Int32)) % (13 : Int32)))).toInt64) - (200 : Int64))
          have e23 : (0 : Int64).toInt = 0 := rfl
          have e24 : (201 : Int32).toInt = 201 := rfl
          have e25 : (202 : Int32).toInt = 202 := rfl
          have e26 : (203 : Int32).toInt = 203 := rfl
          have e27 : (204 : Int32).toInt = 204 := rfl
          have e28 : (1 : Int32).toInt = 1 := rfl
          omega
      · refine g_lload cx d0_107 rfl ?_
        refine g_ldcJ cx d0_109 (hw _ (List.mem_of_getElem? (i := 59) rfl)) ?_
        refine g_lif_gt cx d0_112 d0_113 (fun hc113 => ?_) (fun hc113 => ?_)
        · refine g_iconst cx d0_120 (v := (0 : Int32)) rfl ?_
          refine g_istore cx d0_121 (Ls' := #[.val (.int a), .val (.int sel), .val (.int c1), .val (.int c2), .val (.int ((196 : Int32) + ((a &&& (2147483647 : Int32)) % (13 : Int32)))), .val (.ref b330), .val (.ref b339), .val (.ref b348), .val (.int (0 : Int32)), .val (.long (((((196 : Int32) + ((a &&& (2147483647 : Int32)) % (13 : Int32)))).toInt64) - (200 : Int64))), .second, .val (.int (0 : Int32))]) rfl ?_
          refine g_iload cx d0_123 rfl ?_
          refine g_iload cx d0_125 rfl ?_
          refine g_static cx (y := (⟨"com/example/egret/egret/service/OutcomeDeliveredPinLaw", "isSuccessStatus", "(I)Z"⟩ : MethodName)) d0_127 (hw _ (List.mem_of_getElem? (i := 55) rfl)) (hw _ (List.mem_of_getElem? (i := 56) rfl)) (hw _ (List.mem_of_getElem? (i := 57) rfl)) (hw _ (List.mem_of_getElem? (i := 58) rfl)) (by decide) (bytes := method_2_code) (maxL' := 1) (M := (ra8 l Z a0 hw ((196 : Int32) + ((a &&& (2147483647 : Int32)) % (13 : Int32))) _  OL cs SCS ncs)) rfl (lenOf pd_8 rfl) (by decide) (W := 1) (Nat.le_of_eq rfl) (by decide) (k' := 7) (n' := 15) rfl rfl (by decide) (by decide) (argsL := [(.int ((196 : Int32) + ((a &&& (2147483647 : Int32)) % (13 : Int32))))]) (rest := [(.int (0 : Int32))]) rfl (fun v452 h451 q453 => ?_)
          rcases q453 with ⟨hq425, rfl, rfl⟩ | ⟨hq427, hq428, rfl, rfl⟩ | ⟨hq430, hq431, hq432, rfl, rfl⟩ | ⟨hq434, hq435, hq436, hq437, rfl, rfl⟩ | ⟨hq439, hq440, hq441, hq442, hq443, rfl, rfl⟩ | ⟨hq445, hq446, hq447, hq448, hq449, rfl, rfl⟩
          · refine G.cast (st' := [(.int (1 : Int32)), (.int (0 : Int32))]) ?_ rfl
            refine g_icmp_ne cx d0_130 (fun hc130 => ?_) (fun q => absurd q (fun q => by revert q; decide))
            refine g_iconst cx d0_144 (v := (0 : Int32)) rfl ?_
            refine g_retZ cx d0_145 rfl rfl (by decide) (by decide) ?_
            exfalso
            have i_hc3 : ¬ ((sel &&& (1 : Int32))).toInt = ((0 : Int32)).toInt := fun z => hc3 (Int32.toInt_inj.mp z)
            have i_hq361 : ¬ (cs).toInt = ((0 : Int32)).toInt := fun z => hq361 (Int32.toInt_inj.mp z)
            have i_hq362 : ¬ ((255 : Int32)).toInt < ((nar .char (((c1 &&& (255 : Int32))).toUInt32.toUInt16.toUInt32.toInt32))).toInt := fun z => hq362 (Int32.lt_iff_toInt_lt.mpr z)
            have i_hq375 : ¬ (cs).toInt = ((0 : Int32)).toInt := fun z => hq375 (Int32.toInt_inj.mp z)
            have i_hq376 : ¬ ((255 : Int32)).toInt < ((nar .char (((c2 &&& (255 : Int32))).toUInt32.toUInt16.toUInt32.toInt32))).toInt := fun z => hq376 (Int32.lt_iff_toInt_lt.mpr z)
            have i_hq385 : (((196 : Int32) + ((a &&& (2147483647 : Int32)) % (13 : Int32)))).toInt < ((200 : Int32)).toInt := Int32.lt_iff_toInt_lt.mp hq385
            have i_hc104 : ¬ ((((((196 : Int32) + ((a &&& (2147483647 : Int32)) % (13 : Int32)))).toInt64) - (200 : Int64))).toInt < ((0 : Int64)).toInt := fun z => hc104 (Int64.lt_iff_toInt_lt.mpr z)
            have i_hc113 : ((4 : Int64)).toInt < ((((((196 : Int32) + ((a &&& (2147483647 : Int32)) % (13 : Int32)))).toInt64) - (200 : Int64))).toInt := Int64.lt_iff_toInt_lt.mp hc113
            have i_hq425 : (((196 : Int32) + ((a &&& (2147483647 : Int32)) % (13 : Int32)))).toInt = ((200 : Int32)).toInt := congrArg Int32.toInt hq425
            have i_hc130 : ¬ ((0 : Int32)).toInt = ((1 : Int32)).toInt := fun z => hc130 (Int32.toInt_inj.mp z)
            have r2 := rng32 sel
            have e1 : ((sel &&& (1 : Int32))).toInt = (sel).toInt % 2 := c_mask sel (1 : Int32) 1 (by decide) (by decide)
            have e3 : (0 : Int32).toInt = 0 := rfl
            have r4 := rng32 cs
            have e5 : (255 : Int32).toInt = 255 := rfl
            have r9 := rng32 c1
            have e8 : ((c1 &&& (255 : Int32))).toInt = (c1).toInt % 256 := c_mask c1 (255 : Int32) 8 (by decide) (by decide)
            have e7 := c_i2c (c1 &&& (255 : Int32))
            have e6 : (((nar .char (((c1 &&& (255 : Int32))).toUInt32.toUInt16.toUInt32.toInt32))).toInt - ((((c1 &&& (255 : Int32))).toUInt32.toUInt16.toUInt32.toInt32)).toInt) % 65536 = 0 ∧ 0 ≤ ((nar .char (((c1 &&& (255 : Int32))).toUInt32.toUInt16.toUInt32.toInt32))).toInt ∧ ((nar .char (((c1 &&& (255 : Int32))).toUInt32.toUInt16.toUInt32.toInt32))).toInt < 65536 := c_i2c (((c1 &&& (255 : Int32))).toUInt32.toUInt16.toUInt32.toInt32)
            have r13 := rng32 c2
            have e12 : ((c2 &&& (255 : Int32))).toInt = (c2).toInt % 256 := c_mask c2 (255 : Int32) 8 (by decide) (by decide)
            have e11 := c_i2c (c2 &&& (255 : Int32))
            have e10 : (((nar .char (((c2 &&& (255 : Int32))).toUInt32.toUInt16.toUInt32.toInt32))).toInt - ((((c2 &&& (255 : Int32))).toUInt32.toUInt16.toUInt32.toInt32)).toInt) % 65536 = 0 ∧ 0 ≤ ((nar .char (((c2 &&& (255 : Int32))).toUInt32.toUInt16.toUInt32.toInt32))).toInt ∧ ((nar .char (((c2 &&& (255 : Int32))).toUInt32.toUInt16.toUInt32.toInt32))).toInt < 65536 := c_i2c (((c2 &&& (255 : Int32))).toUInt32.toUInt16.toUInt32.toInt32)
            have e15 : (196 : Int32).toInt = 196 := rfl
            have r18 := rng32 a
            have e17 : ((a &&& (2147483647 : Int32))).toInt = (a).toInt % 2147483648 := c_mask a (2147483647 : Int32) 31 (by decide) (by decide)
            have e16 : (0 ≤ ((a &&& (2147483647 : Int32))).toInt → (((a &&& (2147483647 : Int32)) % (13 : Int32))).toInt = ((a &&& (2147483647 : Int32))).toInt % 13) ∧ (((a &&& (2147483647 : Int32))).toInt < 0 → (((a &&& (2147483647 : Int32)) % (13 : Int32))).toInt = -((-((a &&& (2147483647 : Int32))).toInt) % 13)) := c_irem (a &&& (2147483647 : Int32)) (13 : Int32) 13 rfl
            have e14 := c_iadd (196 : Int32) ((a &&& (2147483647 : Int32)) % (13 : Int32))
            have r14 := rng32 ((196 : Int32) + ((a &&& (2147483647 : Int32)) % (13 : Int32)))
            have e19 : (200 : Int32).toInt = 200 := rfl
            have e21 := c_i2l ((196 : Int32) + ((a &&& (2147483647 : Int32)) % (13 : Int32)))
            have e22 : (200 : Int64).toInt = 200 := rfl
            have e20 := c_lsub ((((196 : Int32) + ((a &&& (2147483647 : Int32)) % (13 : Int32)))).toInt64) (200 : Int64)
            have r20 := rng64 (((((196 : Int32) + ((a &&& (2147483647 : Int32)) % (13 : Int32)))).toInt64) - (200 : Int64))
            have e23 : (0 : Int64).toInt = 0 := rfl
            have e24 : (4 : Int64).toInt = 4 := rfl
            have e25 : (1 : Int32).toInt = 1 := rfl
            omega
          · refine G.cast (st' := [(.int (1 : Int32)), (.int (0 : Int32))]) ?_ rfl
            refine g_icmp_ne cx d0_130 (fun hc130 => ?_) (fun q => absurd q (fun q => by revert q; decide))
            refine g_iconst cx d0_144 (v := (0 : Int32)) rfl ?_
            refine g_retZ cx d0_145 rfl rfl (by decide) (by decide) ?_
            exfalso
            have i_hc3 : ¬ ((sel &&& (1 : Int32))).toInt = ((0 : Int32)).toInt := fun z => hc3 (Int32.toInt_inj.mp z)
            have i_hq361 : ¬ (cs).toInt = ((0 : Int32)).toInt := fun z => hq361 (Int32.toInt_inj.mp z)
            have i_hq362 : ¬ ((255 : Int32)).toInt < ((nar .char (((c1 &&& (255 : Int32))).toUInt32.toUInt16.toUInt32.toInt32))).toInt := fun z => hq362 (Int32.lt_iff_toInt_lt.mpr z)
            have i_hq375 : ¬ (cs).toInt = ((0 : Int32)).toInt := fun z => hq375 (Int32.toInt_inj.mp z)
            have i_hq376 : ¬ ((255 : Int32)).toInt < ((nar .char (((c2 &&& (255 : Int32))).toUInt32.toUInt16.toUInt32.toInt32))).toInt := fun z => hq376 (Int32.lt_iff_toInt_lt.mpr z)
            have i_hq385 : (((196 : Int32) + ((a &&& (2147483647 : Int32)) % (13 : Int32)))).toInt < ((200 : Int32)).toInt := Int32.lt_iff_toInt_lt.mp hq385
            have i_hc104 : ¬ ((((((196 : Int32) + ((a &&& (2147483647 : Int32)) % (13 : Int32)))).toInt64) - (200 : Int64))).toInt < ((0 : Int64)).toInt := fun z => hc104 (Int64.lt_iff_toInt_lt.mpr z)
            have i_hc113 : ((4 : Int64)).toInt < ((((((196 : Int32) + ((a &&& (2147483647 : Int32)) % (13 : Int32)))).toInt64) - (200 : Int64))).toInt := Int64.lt_iff_toInt_lt.mp hc113
            have i_hq427 : ¬ (((196 : Int32) + ((a &&& (2147483647 : Int32)) % (13 : Int32)))).toInt = ((200 : Int32)).toInt := fun z => hq427 (Int32.toInt_inj.mp z)
            have i_hq428 : (((196 : Int32) + ((a &&& (2147483647 : Int32)) % (13 : Int32)))).toInt = ((201 : Int32)).toInt := congrArg Int32.toInt hq428
            have i_hc130 : ¬ ((0 : Int32)).toInt = ((1 : Int32)).toInt := fun z => hc130 (Int32.toInt_inj.mp z)
            have r2 := rng32 sel
            have e1 : ((sel &&& (1 : Int32))).toInt = (sel).toInt % 2 := c_mask sel (1 : Int32) 1 (by decide) (by decide)
            have e3 : (0 : Int32).toInt = 0 := rfl
            have r4 := rng32 cs
            have e5 : (255 : Int32).toInt = 255 := rfl
            have r9 := rng32 c1
            have e8 : ((c1 &&& (255 : Int32))).toInt = (c1).toInt % 256 := c_mask c1 (255 : Int32) 8 (by decide) (by decide)
            have e7 := c_i2c (c1 &&& (255 : Int32))
            have e6 : (((nar .char (((c1 &&& (255 : Int32))).toUInt32.toUInt16.toUInt32.toInt32))).toInt - ((((c1 &&& (255 : Int32))).toUInt32.toUInt16.toUInt32.toInt32)).toInt) % 65536 = 0 ∧ 0 ≤ ((nar .char (((c1 &&& (255 : Int32))).toUInt32.toUInt16.toUInt32.toInt32))).toInt ∧ ((nar .char (((c1 &&& (255 : Int32))).toUInt32.toUInt16.toUInt32.toInt32))).toInt < 65536 := c_i2c (((c1 &&& (255 : Int32))).toUInt32.toUInt16.toUInt32.toInt32)
            have r13 := rng32 c2
            have e12 : ((c2 &&& (255 : Int32))).toInt = (c2).toInt % 256 := c_mask c2 (255 : Int32) 8 (by decide) (by decide)
            have e11 := c_i2c (c2 &&& (255 : Int32))
            have e10 : (((nar .char (((c2 &&& (255 : Int32))).toUInt32.toUInt16.toUInt32.toInt32))).toInt - ((((c2 &&& (255 : Int32))).toUInt32.toUInt16.toUInt32.toInt32)).toInt) % 65536 = 0 ∧ 0 ≤ ((nar .char (((c2 &&& (255 : Int32))).toUInt32.toUInt16.toUInt32.toInt32))).toInt ∧ ((nar .char (((c2 &&& (255 : Int32))).toUInt32.toUInt16.toUInt32.toInt32))).toInt < 65536 := c_i2c (((c2 &&& (255 : Int32))).toUInt32.toUInt16.toUInt32.toInt32)
            have e15 : (196 : Int32).toInt = 196 := rfl
            have r18 := rng32 a
            have e17 : ((a &&& (2147483647 : Int32))).toInt = (a).toInt % 2147483648 := c_mask a (2147483647 : Int32) 31 (by decide) (by decide)
            have e16 : (0 ≤ ((a &&& (2147483647 : Int32))).toInt → (((a &&& (2147483647 : Int32)) % (13 : Int32))).toInt = ((a &&& (2147483647 : Int32))).toInt % 13) ∧ (((a &&& (2147483647 : Int32))).toInt < 0 → (((a &&& (2147483647 : Int32)) % (13 : Int32))).toInt = -((-((a &&& (2147483647 : Int32))).toInt) % 13)) := c_irem (a &&& (2147483647 : Int32)) (13 : Int32) 13 rfl
            have e14 := c_iadd (196 : Int32) ((a &&& (2147483647 : Int32)) % (13 : Int32))
            have r14 := rng32 ((196 : Int32) + ((a &&& (2147483647 : Int32)) % (13 : Int32)))
            have e19 : (200 : Int32).toInt = 200 := rfl
            have e21 := c_i2l ((196 : Int32) + ((a &&& (2147483647 : Int32)) % (13 : Int32)))
            have e22 : (200 : Int64).toInt = 200 := rfl
            have e20 := c_lsub ((((196 : Int32) + ((a &&& (2147483647 : Int32)) % (13 : Int32)))).toInt64) (200 : Int64)
            have r20 := rng64 (((((196 : Int32) + ((a &&& (2147483647 : Int32)) % (13 : Int32)))).toInt64) - (200 : Int64))
            have e23 : (0 : Int64).toInt = 0 := rfl
            have e24 : (4 : Int64).toInt = 4 := rfl
            have e25 : (201 : Int32).toInt = 201 := rfl
            have e26 : (1 : Int32).toInt = 1 := rfl
            omega
          · refine G.cast (st' := [(.int (1 : Int32)), (.int (0 : Int32))]) ?_ rfl
            refine g_icmp_ne cx d0_130 (fun hc130 => ?_) (fun q => absurd q (fun q => by revert q; decide))
            refine g_iconst cx d0_144 (v := (0 : Int32)) rfl ?_
            refine g_retZ cx d0_145 rfl rfl (by decide) (by decide) ?_
            exfalso
            have i_hc3 : ¬ ((sel &&& (1 : Int32))).toInt = ((0 : Int32)).toInt := fun z => hc3 (Int32.toInt_inj.mp z)
            have i_hq361 : ¬ (cs).toInt = ((0 : Int32)).toInt := fun z => hq361 (Int32.toInt_inj.mp z)
            have i_hq362 : ¬ ((255 : Int32)).toInt < ((nar .char (((c1 &&& (255 : Int32))).toUInt32.toUInt16.toUInt32.toInt32))).toInt := fun z => hq362 (Int32.lt_iff_toInt_lt.mpr z)
            have i_hq375 : ¬ (cs).toInt = ((0 : Int32)).toInt := fun z => hq375 (Int32.toInt_inj.mp z)
            have i_hq376 : ¬ ((255 : Int32)).toInt < ((nar .char (((c2 &&& (255 : Int32))).toUInt32.toUInt16.toUInt32.toInt32))).toInt := fun z => hq376 (Int32.lt_iff_toInt_lt.mpr z)
            have i_hq385 : (((196 : Int32) + ((a &&& (2147483647 : Int32)) % (13 : Int32)))).toInt < ((200 : Int32)).toInt := Int32.lt_iff_toInt_lt.mp hq385
            have i_hc104 : ¬ ((((((196 : Int32) + ((a &&& (2147483647 : Int32)) % (13 : Int32)))).toInt64) - (200 : Int64))).toInt < ((0 : Int64)).toInt := fun z => hc104 (Int64.lt_iff_toInt_lt.mpr z)
            have i_hc113 : ((4 : Int64)).toInt < ((((((196 : Int32) + ((a &&& (2147483647 : Int32)) % (13 : Int32)))).toInt64) - (200 : Int64))).toInt := Int64.lt_iff_toInt_lt.mp hc113
            have i_hq430 : ¬ (((196 : Int32) + ((a &&& (2147483647 : Int32)) % (13 : Int32)))).toInt = ((200 : Int32)).toInt := fun z => hq430 (Int32.toInt_inj.mp z)
            have i_hq431 : ¬ (((196 : Int32) + ((a &&& (2147483647 : Int32)) % (13 : Int32)))).toInt = ((201 : Int32)).toInt := fun z => hq431 (Int32.toInt_inj.mp z)
            have i_hq432 : (((196 : Int32) + ((a &&& (2147483647 : Int32)) % (13 : Int32)))).toInt = ((202 : Int32)).toInt := congrArg Int32.toInt hq432
            have i_hc130 : ¬ ((0 : Int32)).toInt = ((1 : Int32)).toInt := fun z => hc130 (Int32.toInt_inj.mp z)
            have r2 := rng32 sel
            have e1 : ((sel &&& (1 : Int32))).toInt = (sel).toInt % 2 := c_mask sel (1 : Int32) 1 (by decide) (by decide)
            have e3 : (0 : Int32).toInt = 0 := rfl
            have r4 := rng32 cs
            have e5 : (255 : Int32).toInt = 255 := rfl
            have r9 := rng32 c1
            have e8 : ((c1 &&& (255 : Int32))).toInt = (c1).toInt % 256 := c_mask c1 (255 : Int32) 8 (by decide) (by decide)
            have e7 := c_i2c (c1 &&& (255 : Int32))
            have e6 : (((nar .char (((c1 &&& (255 : Int32))).toUInt32.toUInt16.toUInt32.toInt32))).toInt - ((((c1 &&& (255 : Int32))).toUInt32.toUInt16.toUInt32.toInt32)).toInt) % 65536 = 0 ∧ 0 ≤ ((nar .char (((c1 &&& (255 : Int32))).toUInt32.toUInt16.toUInt32.toInt32))).toInt ∧ ((nar .char (((c1 &&& (255 : Int32))).toUInt32.toUInt16.toUInt32.toInt32))).toInt < 65536 := c_i2c (((c1 &&& (255 : Int32))).toUInt32.toUInt16.toUInt32.toInt32)
            have r13 := rng32 c2
            have e12 : ((c2 &&& (255 : Int32))).toInt = (c2).toInt % 256 := c_mask c2 (255 : Int32) 8 (by decide) (by decide)
            have e11 := c_i2c (c2 &&& (255 : Int32))
            have e10 : (((nar .char (((c2 &&& (255 : Int32))).toUInt32.toUInt16.toUInt32.toInt32))).toInt - ((((c2 &&& (255 : Int32))).toUInt32.toUInt16.toUInt32.toInt32)).toInt) % 65536 = 0 ∧ 0 ≤ ((nar .char (((c2 &&& (255 : Int32))).toUInt32.toUInt16.toUInt32.toInt32))).toInt ∧ ((nar .char (((c2 &&& (255 : Int32))).toUInt32.toUInt16.toUInt32.toInt32))).toInt < 65536 := c_i2c (((c2 &&& (255 : Int32))).toUInt32.toUInt16.toUInt32.toInt32)
            have e15 : (196 : Int32).toInt = 196 := rfl
            have r18 := rng32 a
            have e17 : ((a &&& (2147483647 : Int32))).toInt = (a).toInt % 2147483648 := c_mask a (2147483647 : Int32) 31 (by decide) (by decide)
            have e16 : (0 ≤ ((a &&& (2147483647 : Int32))).toInt → (((a &&& (2147483647 : Int32)) % (13 : Int32))).toInt = ((a &&& (2147483647 : Int32))).toInt % 13) ∧ (((a &&& (2147483647 : Int32))).toInt < 0 → (((a &&& (2147483647 : Int32)) % (13 : Int32))).toInt = -((-((a &&& (2147483647 : Int32))).toInt) % 13)) := c_irem (a &&& (2147483647 : Int32)) (13 : Int32) 13 rfl
            have e14 := c_iadd (196 : Int32) ((a &&& (2147483647 : Int32)) % (13 : Int32))
            have r14 := rng32 ((196 : Int32) + ((a &&& (2147483647 : Int32)) % (13 : Int32)))
            have e19 : (200 : Int32).toInt = 200 := rfl
            have e21 := c_i2l ((196 : Int32) + ((a &&& (2147483647 : Int32)) % (13 : Int32)))
            have e22 : (200 : Int64).toInt = 200 := rfl
            have e20 := c_lsub ((((196 : Int32) + ((a &&& (2147483647 : Int32)) % (13 : Int32)))).toInt64) (200 : Int64)
            have r20 := rng64 (((((196 : Int32) + ((a &&& (2147483647 : Int32)) % (13 : Int32)))).toInt64) - (200 : Int64))
            have e23 : (0 : Int64).toInt = 0 := rfl
            have e24 : (4 : Int64).toInt = 4 := rfl
            have e25 : (201 : Int32).toInt = 201 := rfl
            have e26 : (202 : Int32).toInt = 202 := rfl
            have e27 : (1 : Int32).toInt = 1 := rfl
            omega
          · refine G.cast (st' := [(.int (1 : Int32)), (.int (0 : Int32))]) ?_ rfl
            refine g_icmp_ne cx d0_130 (fun hc130 => ?_) (fun q => absurd q (fun q => by revert q; decide))
            refine g_iconst cx d0_144 (v := (0 : Int32)) rfl ?_
            refine g_retZ cx d0_145 rfl rfl (by decide) (by decide) ?_
            exfalso
            have i_hc3 : ¬ ((sel &&& (1 : Int32))).toInt = ((0 : Int32)).toInt := fun z => hc3 (Int32.toInt_inj.mp z)
            have i_hq361 : ¬ (cs).toInt = ((0 : Int32)).toInt := fun z => hq361 (Int32.toInt_inj.mp z)
            have i_hq362 : ¬ ((255 : Int32)).toInt < ((nar .char (((c1 &&& (255 : Int32))).toUInt32.toUInt16.toUInt32.toInt32))).toInt := fun z => hq362 (Int32.lt_iff_toInt_lt.mpr z)
            have i_hq375 : ¬ (cs).toInt = ((0 : Int32)).toInt := fun z => hq375 (Int32.toInt_inj.mp z)
            have i_hq376 : ¬ ((255 : Int32)).toInt < ((nar .char (((c2 &&& (255 : Int32))).toUInt32.toUInt16.toUInt32.toInt32))).toInt := fun z => hq376 (Int32.lt_iff_toInt_lt.mpr z)
            have i_hq385 : (((196 : Int32) + ((a &&& (2147483647 : Int32)) % (13 : Int32)))).toInt < ((200 : Int32)).toInt := Int32.lt_iff_toInt_lt.mp hq385
            have i_hc104 : ¬ ((((((196 : Int32) + ((a &&& (2147483647 : Int32)) % (13 : Int32)))).toInt64) - (200 : Int64))).toInt < ((0 : Int64)).toInt := fun z => hc104 (Int64.lt_iff_toInt_lt.mpr z)
            have i_hc113 : ((4 : Int64)).toInt < ((((((196 : Int32) + ((a &&& (2147483647 : Int32)) % (13 : Int32)))).toInt64) - (200 : Int64))).toInt := Int64.lt_iff_toInt_lt.mp hc113
            have i_hq434 : ¬ (((196 : Int32) + ((a &&& (2147483647 : Int32)) % (13 : Int32)))).toInt = ((200 : Int32)).toInt := fun z => hq434 (Int32.toInt_inj.mp z)
            have i_hq435 : ¬ (((196 : Int32) + ((a &&& (2147483647 : Int32)) % (13 : Int32)))).toInt = ((201 : Int32)).toInt := fun z => hq435 (Int32.toInt_inj.mp z)
            have i_hq436 : ¬ (((196 : Int32) + ((a &&& (2147483647 : Int32)) % (13 : Int32)))).toInt = ((202 : Int32)).toInt := fun z => hq436 (Int32.toInt_inj.mp z)
            have i_hq437 : (((196 : Int32) + ((a &&& (2147483647 : Int32)) % (13 : Int32)))).toInt = ((203 : Int32)).toInt := congrArg Int32.toInt hq437
            have i_hc130 : ¬ ((0 : Int32)).toInt = ((1 : Int32)).toInt := fun z => hc130 (Int32.toInt_inj.mp z)
            have r2 := rng32 sel
            have e1 : ((sel &&& (1 : Int32))).toInt = (sel).toInt % 2 := c_mask sel (1 : Int32) 1 (by decide) (by decide)
            have e3 : (0 : Int32).toInt = 0 := rfl
            have r4 := rng32 cs
            have e5 : (255 : Int32).toInt = 255 := rfl
            have r9 := rng32 c1
            have e8 : ((c1 &&& (255 : Int32))).toInt = (c1).toInt % 256 := c_mask c1 (255 : Int32) 8 (by decide) (by decide)
            have e7 := c_i2c (c1 &&& (255 : Int32))
            have e6 : (((nar .char (((c1 &&& (255 : Int32))).toUInt32.toUInt16.toUInt32.toInt32))).toInt - ((((c1 &&& (255 : Int32))).toUInt32.toUInt16.toUInt32.toInt32)).toInt) % 65536 = 0 ∧ 0 ≤ ((nar .char (((c1 &&& (255 : Int32))).toUInt32.toUInt16.toUInt32.toInt32))).toInt ∧ ((nar .char (((c1 &&& (255 : Int32))).toUInt32.toUInt16.toUInt32.toInt32))).toInt < 65536 := c_i2c (((c1 &&& (255 : Int32))).toUInt32.toUInt16.toUInt32.toInt32)
            have r13 := rng32 c2
            have e12 : ((c2 &&& (255 : Int32))).toInt = (c2).toInt % 256 := c_mask c2 (255 : Int32) 8 (by decide) (by decide)
            have e11 := c_i2c (c2 &&& (255 : Int32))
            have e10 : (((nar .char (((c2 &&& (255 : Int32))).toUInt32.toUInt16.toUInt32.toInt32))).toInt - ((((c2 &&& (255 : Int32))).toUInt32.toUInt16.toUInt32.toInt32)).toInt) % 65536 = 0 ∧ 0 ≤ ((nar .char (((c2 &&& (255 : Int32))).toUInt32.toUInt16.toUInt32.toInt32))).toInt ∧ ((nar .char (((c2 &&& (255 : Int32))).toUInt32.toUInt16.toUInt32.toInt32))).toInt < 65536 := c_i2c (((c2 &&& (255 : Int32))).toUInt32.toUInt16.toUInt32.toInt32)
            have e15 : (196 : Int32).toInt = 196 := rfl
            have r18 := rng32 a
            have e17 : ((a &&& (2147483647 : Int32))).toInt = (a).toInt % 2147483648 := c_mask a (2147483647 : Int32) 31 (by decide) (by decide)
            have e16 : (0 ≤ ((a &&& (2147483647 : Int32))).toInt → (((a &&& (2147483647 : Int32)) % (13 : Int32))).toInt = ((a &&& (2147483647 : Int32))).toInt % 13) ∧ (((a &&& (2147483647 : Int32))).toInt < 0 → (((a &&& (2147483647 : Int32)) % (13 : Int32))).toInt = -((-((a &&& (2147483647 : Int32))).toInt) % 13)) := c_irem (a &&& (2147483647 : Int32)) (13 : Int32) 13 rfl
            have e14 := c_iadd (196 : Int32) ((a &&& (2147483647 : Int32)) % (13 : Int32))
            have r14 := rng32 ((196 : Int32) + ((a &&& (2147483647 : Int32)) % (13 : Int32)))
            have e19 : (200 : Int32).toInt = 200 := rfl
            have e21 := c_i2l ((196 : Int32) + ((a &&& (2147483647 : Int32)) % (13 : Int32)))
            have e22 : (200 : Int64).toInt = 200 := rfl
            have e20 := c_lsub ((((196 : Int32) + ((a &&& (2147483647 : Int32)) % (13 : Int32)))).toInt64) (200 : Int64)
            have r20 := rng64 (((((196 : Int32) + ((a &&& (2147483647 : Int32)) % (13 : Int32)))).toInt64) - (200 : Int64))
            have e23 : (0 : Int64).toInt = 0 := rfl
            have e24 : (4 : Int64).toInt = 4 := rfl
            have e25 : (201 : Int32).toInt = 201 := rfl
            have e26 : (202 : Int32).toInt = 202 := rfl
            have e27 : (203 : Int32).toInt = 203 := rfl
            have e28 : (1 : Int32).toInt = 1 := rfl
            omega
          · refine G.cast (st' := [(.int (0 : Int32)), (.int (0 : Int32))]) ?_ rfl
            refine g_icmp_ne cx d0_130 (fun q => absurd q (fun q => by revert q; decide)) (fun hc130 => ?_)
            refine g_iload cx d0_133 rfl ?_
            refine g_iload cx d0_135 rfl ?_
            refine g_icmp_ne cx d0_137 (fun q => absurd q (fun q => by revert q; decide)) (fun hc137 => ?_)
            refine g_iconst cx d0_140 (v := (1 : Int32)) rfl ?_
            refine g_goto cx d0_141 ?_
            refine g_retZ cx d0_145 rfl rfl (by decide) (by decide) ?_
            rfl
          · refine G.cast (st' := [(.int (1 : Int32)), (.int (0 : Int32))]) ?_ rfl
            refine g_icmp_ne cx d0_130 (fun hc130 => ?_) (fun q => absurd q (fun q => by revert q; decide))
            refine g_iconst cx d0_144 (v := (0 : Int32)) rfl ?_
            refine g_retZ cx d0_145 rfl rfl (by decide) (by decide) ?_
            exfalso
            have i_hc3 : ¬ ((sel &&& (1 : Int32))).toInt = ((0 : Int32)).toInt := fun z => hc3 (Int32.toInt_inj.mp z)
            have i_hq361 : ¬ (cs).toInt = ((0 : Int32)).toInt := fun z => hq361 (Int32.toInt_inj.mp z)
            have i_hq362 : ¬ ((255 : Int32)).toInt < ((nar .char (((c1 &&& (255 : Int32))).toUInt32.toUInt16.toUInt32.toInt32))).toInt := fun z => hq362 (Int32.lt_iff_toInt_lt.mpr z)
            have i_hq375 : ¬ (cs).toInt = ((0 : Int32)).toInt := fun z => hq375 (Int32.toInt_inj.mp z)
            have i_hq376 : ¬ ((255 : Int32)).toInt < ((nar .char (((c2 &&& (255 : Int32))).toUInt32.toUInt16.toUInt32.toInt32))).toInt := fun z => hq376 (Int32.lt_iff_toInt_lt.mpr z)
            have i_hq385 : (((196 : Int32) + ((a &&& (2147483647 : Int32)) % (13 : Int32)))).toInt < ((200 : Int32)).toInt := Int32.lt_iff_toInt_lt.mp hq385
            have i_hc104 : ¬ ((((((196 : Int32) + ((a &&& (2147483647 : Int32)) % (13 : Int32)))).toInt64) - (200 : Int64))).toInt < ((0 : Int64)).toInt := fun z => hc104 (Int64.lt_iff_toInt_lt.mpr z)
            have i_hc113 : ((4 : Int64)).toInt < ((((((196 : Int32) + ((a &&& (2147483647 : Int32)) % (13 : Int32)))).toInt64) - (200 : Int64))).toInt := Int64.lt_iff_toInt_lt.mp hc113
            have i_hq445 : ¬ (((196 : Int32) + ((a &&& (2147483647 : Int32)) % (13 : Int32)))).toInt = ((200 : Int32)).toInt := fun z => hq445 (Int32.toInt_inj.mp z)
            have i_hq446 : ¬ (((196 : Int32) + ((a &&& (2147483647 : Int32)) % (13 : Int32)))).toInt = ((201 : Int32)).toInt := fun z => hq446 (Int32.toInt_inj.mp z)
            have i_hq447 : ¬ (((196 : Int32) + ((a &&& (2147483647 : Int32)) % (13 : Int32)))).toInt = ((202 : Int32)).toInt := fun z => hq447 (Int32.toInt_inj.mp z)
            have i_hq448 : ¬ (((196 : Int32) + ((a &&& (2147483647 : Int32)) % (13 : Int32)))).toInt = ((203 : Int32)).toInt := fun z => hq448 (Int32.toInt_inj.mp z)
            have i_hq449 : (((196 : Int32) + ((a &&& (2147483647 : Int32)) % (13 : Int32)))).toInt = ((204 : Int32)).toInt := congrArg Int32.toInt hq449
            have i_hc130 : ¬ ((0 : Int32)).toInt = ((1 : Int32)).toInt := fun z => hc130 (Int32.toInt_inj.mp z)
            have r2 := rng32 sel
            have e1 : ((sel &&& (1 : Int32))).toInt = (sel).toInt % 2 := c_mask sel (1 : Int32) 1 (by decide) (by decide)
            have e3 : (0 : Int32).toInt = 0 := rfl
            have r4 := rng32 cs
            have e5 : (255 : Int32).toInt = 255 := rfl
            have r9 := rng32 c1
            have e8 : ((c1 &&& (255 : Int32))).toInt = (c1).toInt % 256 := c_mask c1 (255 : Int32) 8 (by decide) (by decide)
            have e7 := c_i2c (c1 &&& (255 : Int32))
            have e6 : (((nar .char (((c1 &&& (255 : Int32))).toUInt32.toUInt16.toUInt32.toInt32))).toInt - ((((c1 &&& (255 : Int32))).toUInt32.toUInt16.toUInt32.toInt32)).toInt) % 65536 = 0 ∧ 0 ≤ ((nar .char (((c1 &&& (255 : Int32))).toUInt32.toUInt16.toUInt32.toInt32))).toInt ∧ ((nar .char (((c1 &&& (255 : Int32))).toUInt32.toUInt16.toUInt32.toInt32))).toInt < 65536 := c_i2c (((c1 &&& (255 : Int32))).toUInt32.toUInt16.toUInt32.toInt32)
            have r13 := rng32 c2
            have e12 : ((c2 &&& (255 : Int32))).toInt = (c2).toInt % 256 := c_mask c2 (255 : Int32) 8 (by decide) (by decide)
            have e11 := c_i2c (c2 &&& (255 : Int32))
            have e10 : (((nar .char (((c2 &&& (255 : Int32))).toUInt32.toUInt16.toUInt32.toInt32))).toInt - ((((c2 &&& (255 : Int32))).toUInt32.toUInt16.toUInt32.toInt32)).toInt) % 65536 = 0 ∧ 0 ≤ ((nar .char (((c2 &&& (255 : Int32))).toUInt32.toUInt16.toUInt32.toInt32))).toInt ∧ ((nar .char (((c2 &&& (255 : Int32))).toUInt32.toUInt16.toUInt32.toInt32))).toInt < 65536 := c_i2c (((c2 &&& (255 : Int32))).toUInt32.toUInt16.toUInt32.toInt32)
            have e15 : (196 : Int32).toInt = 196 := rfl
            have r18 := rng32 a
            have e17 : ((a &&& (2147483647 : Int32))).toInt = (a).toInt % 2147483648 := c_mask a (2147483647 : Int32) 31 (by decide) (by decide)
            have e16 : (0 ≤ ((a &&& (2147483647 : Int32))).toInt → (((a &&& (2147483647 : Int32)) % (13 : Int32))).toInt = ((a &&& (2147483647 : Int32))).toInt % 13) ∧ (((a &&& (2147483647 : Int32))).toInt < 0 → (((a &&& (2147483647 : Int32)) % (13 : Int32))).toInt = -((-((a &&& (2147483647 : Int32))).toInt) % 13)) := c_irem (a &&& (2147483647 : Int32)) (13 : Int32) 13 rfl
            have e14 := c_iadd (196 : Int32) ((a &&& (2147483647 : Int32)) % (13 : Int32))
            have r14 := rng32 ((196 : Int32) + ((a &&& (2147483647 : Int32)) % (13 : Int32)))
            have e19 : (200 : Int32).toInt = 200 := rfl
            have e21 := c_i2l ((196 : Int32) + ((a &&& (2147483647 : Int32)) % (13 : Int32)))
            have e22 : (200 : Int64).toInt = 200 := rfl
            have e20 := c_lsub ((((196 : Int32) + ((a &&& (2147483647 : Int32)) % (13 : Int32)))).toInt64) (200 : Int64)
            have r20 := rng64 (((((196 : Int32) + ((a &&& (2147483647 : Int32)) % (13 : Int32)))).toInt64) - (200 : Int64))
            have e23 : (0 : Int64).toInt = 0 := rfl
            have e24 : (4 : Int64).toInt = 4 := rfl
            have e25 : (201 : Int32).toInt = 201 := rfl
            have e26 : (202 : Int32).toInt = 202 := rfl
            have e27 : (203 : Int32).toInt = 203 := rfl
            have e28 : (204 : Int32).toInt = 204 := rfl
            have e29 : (1 : Int32).toInt = 1 := rfl
            omega
        · refine g_iconst cx d0_116 (v := (1 : Int32)) rfl ?_
          refine g_goto cx d0_117 ?_
          refine g_istore cx d0_121 (Ls' := #[.val (.int a), .val (.int sel), .val (.int c1), .val (.int c2), .val (.int ((196 : Int32) + ((a &&& (2147483647 : Int32)) % (13 : Int32)))), .val (.ref b330), .val (.ref b339), .val (.ref b348), .val (.int (0 : Int32)), .val (.long (((((196 : Int32) + ((a &&& (2147483647 : Int32)) % (13 : Int32)))).toInt64) - (200 : Int64))), .second, .val (.int (1 : Int32))]) rfl ?_
          refine g_iload cx d0_123 rfl ?_
          refine g_iload cx d0_125 rfl ?_
          refine g_static cx (y := (⟨"com/example/egret/egret/service/OutcomeDeliveredPinLaw", "isSuccessStatus", "(I)Z"⟩ : MethodName)) d0_127 (hw _ (List.mem_of_getElem? (i := 55) rfl)) (hw _ (List.mem_of_getElem? (i := 56) rfl)) (hw _ (List.mem_of_getElem? (i := 57) rfl)) (hw _ (List.mem_of_getElem? (i := 58) rfl)) (by decide) (bytes := method_2_code) (maxL' := 1) (M := (ra8 l Z a0 hw ((196 : Int32) + ((a &&& (2147483647 : Int32)) % (13 : Int32))) _  OL cs SCS ncs)) rfl (lenOf pd_8 rfl) (by decide) (W := 1) (Nat.le_of_eq rfl) (by decide) (k' := 7) (n' := 15) rfl rfl (by decide) (by decide) (argsL := [(.int ((196 : Int32) + ((a &&& (2147483647 : Int32)) % (13 : Int32))))]) (rest := [(.int (0 : Int32))]) rfl (fun v481 h480 q482 => ?_)
          rcases q482 with ⟨hq454, rfl, rfl⟩ | ⟨hq456, hq457, rfl, rfl⟩ | ⟨hq459, hq460, hq461, rfl, rfl⟩ | ⟨hq463, hq464, hq465, hq466, rfl, rfl⟩ | ⟨hq468, hq469, hq470, hq471, hq472, rfl, rfl⟩ | ⟨hq474, hq475, hq476, hq477, hq478, rfl, rfl⟩
          · refine G.cast (st' := [(.int (1 : Int32)), (.int (0 : Int32))]) ?_ rfl
            refine g_icmp_ne cx d0_130 (fun hc130 => ?_) (fun q => absurd q (fun q => by revert q; decide))
            refine g_iconst cx d0_144 (v := (0 : Int32)) rfl ?_
            refine g_retZ cx d0_145 rfl rfl (by decide) (by decide) ?_
            exfalso
            have i_hc3 : ¬ ((sel &&& (1 : Int32))).toInt = ((0 : Int32)).toInt := fun z => hc3 (Int32.toInt_inj.mp z)
            have i_hq361 : ¬ (cs).toInt = ((0 : Int32)).toInt := fun z => hq361 (Int32.toInt_inj.mp z)
            have i_hq362 : ¬ ((255 : Int32)).toInt < ((nar .char (((c1 &&& (255 : Int32))).toUInt32.toUInt16.toUInt32.toInt32))).toInt := fun z => hq362 (Int32.lt_iff_toInt_lt.mpr z)
            have i_hq375 : ¬ (cs).toInt = ((0 : Int32)).toInt := fun z => hq375 (Int32.toInt_inj.mp z)
            have i_hq376 : ¬ ((255 : Int32)).toInt < ((nar .char (((c2 &&& (255 : Int32))).toUInt32.toUInt16.toUInt32.toInt32))).toInt := fun z => hq376 (Int32.lt_iff_toInt_lt.mpr z)
            have i_hq385 : (((196 : Int32) + ((a &&& (2147483647 : Int32)) % (13 : Int32)))).toInt < ((200 : Int32)).toInt := Int32.lt_iff_toInt_lt.mp hq385
            have i_hc104 : ¬ ((((((196 : Int32) + ((a &&& (2147483647 : Int32)) % (13 : Int32)))).toInt64) - (200 : Int64))).toInt < ((0 : Int64)).toInt := fun z => hc104 (Int64.lt_iff_toInt_lt.mpr z)
            have i_hc113 : ¬ ((4 : Int64)).toInt < ((((((196 : Int32) + ((a &&& (2147483647 : Int32)) % (13 : Int32)))).toInt64) - (200 : Int64))).toInt := fun z => hc113 (Int64.lt_iff_toInt_lt.mpr z)
            have i_hq454 : (((196 : Int32) + ((a &&& (2147483647 : Int32)) % (13 : Int32)))).toInt = ((200 : Int32)).toInt := congrArg Int32.toInt hq454
            have i_hc130 : ¬ ((0 : Int32)).toInt = ((1 : Int32)).toInt := fun z => hc130 (Int32.toInt_inj.mp z)
            have r2 := rng32 sel
            have e1 : ((sel &&& (1 : Int32))).toInt = (sel).toInt % 2 := c_mask sel (1 : Int32) 1 (by decide) (by decide)
            have e3 : (0 : Int32).toInt = 0 := rfl
            have r4 := rng32 cs
            have e5 : (255 : Int32).toInt = 255 := rfl
            have r9 := rng32 c1
            have e8 : ((c1 &&& (255 : Int32))).toInt = (c1).toInt % 256 := c_mask c1 (255 : Int32) 8 (by decide) (by decide)
            have e7 := c_i2c (c1 &&& (255 : Int32))
            have e6 : (((nar .char (((c1 &&& (255 : Int32))).toUInt32.toUInt16.toUInt32.toInt32))).toInt - ((((c1 &&& (255 : Int32))).toUInt32.toUInt16.toUInt32.toInt32)).toInt) % 65536 = 0 ∧ 0 ≤ ((nar .char (((c1 &&& (255 : Int32))).toUInt32.toUInt16.toUInt32.toInt32))).toInt ∧ ((nar .char (((c1 &&& (255 : Int32))).toUInt32.toUInt16.toUInt32.toInt32))).toInt < 65536 := c_i2c (((c1 &&& (255 : Int32))).toUInt32.toUInt16.toUInt32.toInt32)
            have r13 := rng32 c2
            have e12 : ((c2 &&& (255 : Int32))).toInt = (c2).toInt % 256 := c_mask c2 (255 : Int32) 8 (by decide) (by decide)
            have e11 := c_i2c (c2 &&& (255 : Int32))
            have e10 : (((nar .char (((c2 &&& (255 : Int32))).toUInt32.toUInt16.toUInt32.toInt32))).toInt - ((((c2 &&& (255 : Int32))).toUInt32.toUInt16.toUInt32.toInt32)).toInt) % 65536 = 0 ∧ 0 ≤ ((nar .char (((c2 &&& (255 : Int32))).toUInt32.toUInt16.toUInt32.toInt32))).toInt ∧ ((nar .char (((c2 &&& (255 : Int32))).toUInt32.toUInt16.toUInt32.toInt32))).toInt < 65536 := c_i2c (((c2 &&& (255 : Int32))).toUInt32.toUInt16.toUInt32.toInt32)
            have e15 : (196 : Int32).toInt = 196 := rfl
            have r18 := rng32 a
            have e17 : ((a &&& (2147483647 : Int32))).toInt = (a).toInt % 2147483648 := c_mask a (2147483647 : Int32) 31 (by decide) (by decide)
            have e16 : (0 ≤ ((a &&& (2147483647 : Int32))).toInt → (((a &&& (2147483647 : Int32)) % (13 : Int32))).toInt = ((a &&& (2147483647 : Int32))).toInt % 13) ∧ (((a &&& (2147483647 : Int32))).toInt < 0 → (((a &&& (2147483647 : Int32)) % (13 : Int32))).toInt = -((-((a &&& (2147483647 : Int32))).toInt) % 13)) := c_irem (a &&& (2147483647 : Int32)) (13 : Int32) 13 rfl
            have e14 := c_iadd (196 : Int32) ((a &&& (2147483647 : Int32)) % (13 : Int32))
            have r14 := rng32 ((196 : Int32) + ((a &&& (2147483647 : Int32)) % (13 : Int32)))
            have e19 : (200 : Int32).toInt = 200 := rfl
            have e21 := c_i2l ((196 : Int32) + ((a &&& (2147483647 : Int32)) % (13 : Int32)))
            have e22 : (200 : Int64).toInt = 200 := rfl
            have e20 := c_lsub ((((196 : Int32) + ((a &&& (2147483647 : Int32)) % (13 : Int32)))).toInt64) (200 : Int64)
            have r20 := rng64 (((((196 : Int32) + ((a &&& (2147483647 : Int32)) % (13 : Int32)))).toInt64) - (200 : Int64))
            have e23 : (0 : Int64).toInt = 0 := rfl
            have e24 : (4 : Int64).toInt = 4 := rfl
            have e25 : (1 : Int32).toInt = 1 := rfl
            omega
          · refine G.cast (st' := [(.int (1 : Int32)), (.int (0 : Int32))]) ?_ rfl
            refine g_icmp_ne cx d0_130 (fun hc130 => ?_) (fun q => absurd q (fun q => by revert q; decide))
            refine g_iconst cx d0_144 (v := (0 : Int32)) rfl ?_
            refine g_retZ cx d0_145 rfl rfl (by decide) (by decide) ?_
            exfalso
            have i_hc3 : ¬ ((sel &&& (1 : Int32))).toInt = ((0 : Int32)).toInt := fun z => hc3 (Int32.toInt_inj.mp z)
            have i_hq361 : ¬ (cs).toInt = ((0 : Int32)).toInt := fun z => hq361 (Int32.toInt_inj.mp z)
            have i_hq362 : ¬ ((255 : Int32)).toInt < ((nar .char (((c1 &&& (255 : Int32))).toUInt32.toUInt16.toUInt32.toInt32))).toInt := fun z => hq362 (Int32.lt_iff_toInt_lt.mpr z)
            have i_hq375 : ¬ (cs).toInt = ((0 : Int32)).toInt := fun z => hq375 (Int32.toInt_inj.mp z)
            have i_hq376 : ¬ ((255 : Int32)).toInt < ((nar .char (((c2 &&& (255 : Int32))).toUInt32.toUInt16.toUInt32.toInt32))).toInt := fun z => hq376 (Int32.lt_iff_toInt_lt.mpr z)
            have i_hq385 : (((196 : Int32) + ((a &&& (2147483647 : Int32)) % (13 : Int32)))).toInt < ((200 : Int32)).toInt := Int32.lt_iff_toInt_lt.mp hq385
            have i_hc104 : ¬ ((((((196 : Int32) + ((a &&& (2147483647 : Int32)) % (13 : Int32)))).toInt64) - (200 : Int64))).toInt < ((0 : Int64)).toInt := fun z => hc104 (Int64.lt_iff_toInt_lt.mpr z)
            have i_hc113 : ¬ ((4 : Int64)).toInt < ((((((196 : Int32) + ((a &&& (2147483647 : Int32)) % (13 : Int32)))).toInt64) - (200 : Int64))).toInt := fun z => hc113 (Int64.lt_iff_toInt_lt.mpr z)
            have i_hq456 : ¬ (((196 : Int32) + ((a &&& (2147483647 : Int32)) % (13 : Int32)))).toInt = ((200 : Int32)).toInt := fun z => hq456 (Int32.toInt_inj.mp z)
            have i_hq457 : (((196 : Int32) + ((a &&& (2147483647 : Int32)) % (13 : Int32)))).toInt = ((201 : Int32)).toInt := congrArg Int32.toInt hq457
            have i_hc130 : ¬ ((0 : Int32)).toInt = ((1 : Int32)).toInt := fun z => hc130 (Int32.toInt_inj.mp z)
            have r2 := rng32 sel
            have e1 : ((sel &&& (1 : Int32))).toInt = (sel).toInt % 2 := c_mask sel (1 : Int32) 1 (by decide) (by decide)
            have e3 : (0 : Int32).toInt = 0 := rfl
            have r4 := rng32 cs
            have e5 : (255 : Int32).toInt = 255 := rfl
            have r9 := rng32 c1
            have e8 : ((c1 &&& (255 : Int32))).toInt = (c1).toInt % 256 := c_mask c1 (255 : Int32) 8 (by decide) (by decide)
            have e7 := c_i2c (c1 &&& (255 : Int32))
            have e6 : (((nar .char (((c1 &&& (255 : Int32))).toUInt32.toUInt16.toUInt32.toInt32))).toInt - ((((c1 &&& (255 : Int32))).toUInt32.toUInt16.toUInt32.toInt32)).toInt) % 65536 = 0 ∧ 0 ≤ ((nar .char (((c1 &&& (255 : Int32))).toUInt32.toUInt16.toUInt32.toInt32))).toInt ∧ ((nar .char (((c1 &&& (255 : Int32))).toUInt32.toUInt16.toUInt32.toInt32))).toInt < 65536 := c_i2c (((c1 &&& (255 : Int32))).toUInt32.toUInt16.toUInt32.toInt32)
            have r13 := rng32 c2
            have e12 : ((c2 &&& (255 : Int32))).toInt = (c2).toInt % 256 := c_mask c2 (255 : Int32) 8 (by decide) (by decide)
            have e11 := c_i2c (c2 &&& (255 : Int32))
            have e10 : (((nar .char (((c2 &&& (255 : Int32))).toUInt32.toUInt16.toUInt32.toInt32))).toInt - ((((c2 &&& (255 : Int32))).toUInt32.toUInt16.toUInt32.toInt32)).toInt) % 65536 = 0 ∧ 0 ≤ ((nar .char (((c2 &&& (255 : Int32))).toUInt32.toUInt16.toUInt32.toInt32))).toInt ∧ ((nar .char (((c2 &&& (255 : Int32))).toUInt32.toUInt16.toUInt32.toInt32))).toInt < 65536 := c_i2c (((c2 &&& (255 : Int32))).toUInt32.toUInt16.toUInt32.toInt32)
            have e15 : (196 : Int32).toInt = 196 := rfl
            have r18 := rng32 a
            have e17 : ((a &&& (2147483647 : Int32))).toInt = (a).toInt % 2147483648 := c_mask a (2147483647 : Int32) 31 (by decide) (by decide)
            have e16 : (0 ≤ ((a &&& (2147483647 : Int32))).toInt → (((a &&& (2147483647 : Int32)) % (13 : Int32))).toInt = ((a &&& (2147483647 : Int32))).toInt % 13) ∧ (((a &&& (2147483647 : Int32))).toInt < 0 → (((a &&& (2147483647 : Int32)) % (13 : Int32))).toInt = -((-((a &&& (2147483647 : Int32))).toInt) % 13)) := c_irem (a &&& (2147483647 : Int32)) (13 : Int32) 13 rfl
            have e14 := c_iadd (196 : Int32) ((a &&& (2147483647 : Int32)) % (13 : Int32))
            have r14 := rng32 ((196 : Int32) + ((a &&& (2147483647 : Int32)) % (13 : Int32)))
            have e19 : (200 : Int32).toInt = 200 := rfl
            have e21 := c_i2l ((196 : Int32) + ((a &&& (2147483647 : Int32)) % (13 : Int32)))
            have e22 : (200 : Int64).toInt = 200 := rfl
            have e20 := c_lsub ((((196 : Int32) + ((a &&& (2147483647 : Int32)) % (13 : Int32)))).toInt64) (200 : Int64)
            have r20 := rng64 (((((196 : Int32) + ((a &&& (2147483647 : Int32)) % (13 : Int32)))).toInt64) - (200 : Int64))
            have e23 : (0 : Int64).toInt = 0 := rfl
            have e24 : (4 : Int64).toInt = 4 := rfl
            have e25 : (201 : Int32).toInt = 201 := rfl
            have e26 : (1 : Int32).toInt = 1 := rfl
            omega
          · refine G.cast (st' := [(.int (1 : Int32)), (.int (0 : Int32))]) ?_ rfl
            refine g_icmp_ne cx d0_130 (fun hc130 => ?_) (fun q => absurd q (fun q => by revert q; decide))
            refine g_iconst cx d0_144 (v := (0 : Int32)) rfl ?_
            refine g_retZ cx d0_145 rfl rfl (by decide) (by decide) ?_
            exfalso
            have i_hc3 : ¬ ((sel &&& (1 : Int32))).toInt = ((0 : Int32)).toInt := fun z => hc3 (Int32.toInt_inj.mp z)
            have i_hq361 : ¬ (cs).toInt = ((0 : Int32)).toInt := fun z => hq361 (Int32.toInt_inj.mp z)
            have i_hq362 : ¬ ((255 : Int32)).toInt < ((nar .char (((c1 &&& (255 : Int32))).toUInt32.toUInt16.toUInt32.toInt32))).toInt := fun z => hq362 (Int32.lt_iff_toInt_lt.mpr z)
            have i_hq375 : ¬ (cs).toInt = ((0 : Int32)).toInt := fun z => hq375 (Int32.toInt_inj.mp z)
            have i_hq376 : ¬ ((255 : Int32)).toInt < ((nar .char (((c2 &&& (255 : Int32))).toUInt32.toUInt16.toUInt32.toInt32))).toInt := fun z => hq376 (Int32.lt_iff_toInt_lt.mpr z)
            have i_hq385 : (((196 : Int32) + ((a &&& (2147483647 : Int32)) % (13 : Int32)))).toInt < ((200 : Int32)).toInt := Int32.lt_iff_toInt_lt.mp hq385
            have i_hc104 : ¬ ((((((196 : Int32) + ((a &&& (2147483647 : Int32)) % (13 : Int32)))).toInt64) - (200 : Int64))).toInt < ((0 : Int64)).toInt := fun z => hc104 (Int64.lt_iff_toInt_lt.mpr z)
            have i_hc113 : ¬ ((4 : Int64)).toInt < ((((((196 : Int32) + ((a &&& (2147483647 : Int32)) % (13 : Int32)))).toInt64) - (200 : Int64))).toInt := fun z => hc113 (Int64.lt_iff_toInt_lt.mpr z)
            have i_hq459 : ¬ (((196 : Int32) + ((a &&& (2147483647 : Int32)) % (13 : Int32)))).toInt = ((200 : Int32)).toInt := fun z => hq459 (Int32.toInt_inj.mp z)
            have i_hq460 : ¬ (((196 : Int32) + ((a &&& (2147483647 : Int32)) % (13 : Int32)))).toInt = ((201 : Int32)).toInt := fun z => hq460 (Int32.toInt_inj.mp z)
            have i_hq461 : (((196 : Int32) + ((a &&& (2147483647 : Int32)) % (13 : Int32)))).toInt = ((202 : Int32)).toInt := congrArg Int32.toInt hq461
            have i_hc130 : ¬ ((0 : Int32)).toInt = ((1 : Int32)).toInt := fun z => hc130 (Int32.toInt_inj.mp z)
            have r2 := rng32 sel
            have e1 : ((sel &&& (1 : Int32))).toInt = (sel).toInt % 2 := c_mask sel (1 : Int32) 1 (by decide) (by decide)
            have e3 : (0 : Int32).toInt = 0 := rfl
            have r4 := rng32 cs
            have e5 : (255 : Int32).toInt = 255 := rfl
            have r9 := rng32 c1
            have e8 : ((c1 &&& (255 : Int32))).toInt = (c1).toInt % 256 := c_mask c1 (255 : Int32) 8 (by decide) (by decide)
            have e7 := c_i2c (c1 &&& (255 : Int32))
            have e6 : (((nar .char (((c1 &&& (255 : Int32))).toUInt32.toUInt16.toUInt32.toInt32))).toInt - ((((c1 &&& (255 : Int32))).toUInt32.toUInt16.toUInt32.toInt32)).toInt) % 65536 = 0 ∧ 0 ≤ ((nar .char (((c1 &&& (255 : Int32))).toUInt32.toUInt16.toUInt32.toInt32))).toInt ∧ ((nar .char (((c1 &&& (255 : Int32))).toUInt32.toUInt16.toUInt32.toInt32))).toInt < 65536 := c_i2c (((c1 &&& (255 : Int32))).toUInt32.toUInt16.toUInt32.toInt32)
            have r13 := rng32 c2
            have e12 : ((c2 &&& (255 : Int32))).toInt = (c2).toInt % 256 := c_mask c2 (255 : Int32) 8 (by decide) (by decide)
            have e11 := c_i2c (c2 &&& (255 : Int32))
            have e10 : (((nar .char (((c2 &&& (255 : Int32))).toUInt32.toUInt16.toUInt32.toInt32))).toInt - ((((c2 &&& (255 : Int32))).toUInt32.toUInt16.toUInt32.toInt32)).toInt) % 65536 = 0 ∧ 0 ≤ ((nar .char (((c2 &&& (255 : Int32))).toUInt32.toUInt16.toUInt32.toInt32))).toInt ∧ ((nar .char (((c2 &&& (255 : Int32))).toUInt32.toUInt16.toUInt32.toInt32))).toInt < 65536 := c_i2c (((c2 &&& (255 : Int32))).toUInt32.toUInt16.toUInt32.toInt32)
            have e15 : (196 : Int32).toInt = 196 := rfl
            have r18 := rng32 a
            have e17 : ((a &&& (2147483647 : Int32))).toInt = (a).toInt % 2147483648 := c_mask a (2147483647 : Int32) 31 (by decide) (by decide)
            have e16 : (0 ≤ ((a &&& (2147483647 : Int32))).toInt → (((a &&& (2147483647 : Int32)) % (13 : Int32))).toInt = ((a &&& (2147483647 : Int32))).toInt % 13) ∧ (((a &&& (2147483647 : Int32))).toInt < 0 → (((a &&& (2147483647 : Int32)) % (13 : Int32))).toInt = -((-((a &&& (2147483647 : Int32))).toInt) % 13)) := c_irem (a &&& (2147483647 : Int32)) (13 : Int32) 13 rfl
            have e14 := c_iadd (196 : Int32) ((a &&& (2147483647 : Int32)) % (13 : Int32))
            have r14 := rng32 ((196 : Int32) + ((a &&& (2147483647 : Int32)) % (13 : Int32)))
            have e19 : (200 : Int32).toInt = 200 := rfl
            have e21 := c_i2l ((196 : Int32) + ((a &&& (2147483647 : Int32)) % (13 : Int32)))
            have e22 : (200 : Int64).toInt = 200 := rfl
            have e20 := c_lsub ((((196 : Int32) + ((a &&& (2147483647 : Int32)) % (13 : Int32)))).toInt64) (200 : Int64)
            have r20 := rng64 (((((196 : Int32) + ((a &&& (2147483647 : Int32)) % (13 : Int32)))).toInt64) - (200 : Int64))
            have e23 : (0 : Int64).toInt = 0 := rfl
            have e24 : (4 : Int64).toInt = 4 := rfl
            have e25 : (201 : Int32).toInt = 201 := rfl
            have e26 : (202 : Int32).toInt = 202 := rfl
            have e27 : (1 : Int32).toInt = 1 := rfl
            omega
          · refine G.cast (st' := [(.int (1 : Int32)), (.int (0 : Int32))]) ?_ rfl
            refine g_icmp_ne cx d0_130 (fun hc130 => ?_) (fun q => absurd q (fun q => by revert q; decide))
            refine g_iconst cx d0_144 (v := (0 : Int32)) rfl ?_
            refine g_retZ cx d0_145 rfl rfl (by decide) (by decide) ?_
            exfalso
            have i_hc3 : ¬ ((sel &&& (1 : Int32))).toInt = ((0 : Int32)).toInt := fun z => hc3 (Int32.toInt_inj.mp z)
            have i_hq361 : ¬ (cs).toInt = ((0 : Int32)).toInt := fun z => hq361 (Int32.toInt_inj.mp z)
            have i_hq362 : ¬ ((255 : Int32)).toInt < ((nar .char (((c1 &&& (255 : Int32))).toUInt32.toUInt16.toUInt32.toInt32))).toInt := fun z => hq362 (Int32.lt_iff_toInt_lt.mpr z)
            have i_hq375 : ¬ (cs).toInt = ((0 : Int32)).toInt := fun z => hq375 (Int32.toInt_inj.mp z)
            have i_hq376 : ¬ ((255 : Int32)).toInt < ((nar .char (((c2 &&& (255 : Int32))).toUInt32.toUInt16.toUInt32.toInt32))).toInt := fun z => hq376 (Int32.lt_iff_toInt_lt.mpr z)
            have i_hq385 : (((196 : Int32) + ((a &&& (2147483647 : Int32)) % (13 : Int32)))).toInt < ((200 : Int32)).toInt := Int32.lt_iff_toInt_lt.mp hq385
            have i_hc104 : ¬ ((((((196 : Int32) + ((a &&& (2147483647 : Int32)) % (13 : Int32)))).toInt64) - (200 : Int64))).toInt < ((0 : Int64)).toInt := fun z => hc104 (Int64.lt_iff_toInt_lt.mpr z)
            have i_hc113 : ¬ ((4 : Int64)).toInt < ((((((196 : Int32) + ((a &&& (2147483647 : Int32)) % (13 : Int32)))).toInt64) - (200 : Int64))).toInt := fun z => hc113 (Int64.lt_iff_toInt_lt.mpr z)
            have i_hq463 : ¬ (((196 : Int32) + ((a &&& (2147483647 : Int32)) % (13 : Int32)))).toInt = ((200 : Int32)).toInt := fun z => hq463 (Int32.toInt_inj.mp z)
            have i_hq464 : ¬ (((196 : Int32) + ((a &&& (2147483647 : Int32)) % (13 : Int32)))).toInt = ((201 : Int32)).toInt := fun z => hq464 (Int32.toInt_inj.mp z)
            have i_hq465 : ¬ (((196 : Int32) + ((a &&& (2147483647 : Int32)) % (13 : Int32)))).toInt = ((202 : Int32)).toInt := fun z => hq465 (Int32.toInt_inj.mp z)
            have i_hq466 : (((196 : Int32) + ((a &&& (2147483647 : Int32)) % (13 : Int32)))).toInt = ((203 : Int32)).toInt := congrArg Int32.toInt hq466
            have i_hc130 : ¬ ((0 : Int32)).toInt = ((1 : Int32)).toInt := fun z => hc130 (Int32.toInt_inj.mp z)
            have r2 := rng32 sel
            have e1 : ((sel &&& (1 : Int32))).toInt = (sel).toInt % 2 := c_mask sel (1 : Int32) 1 (by decide) (by decide)
            have e3 : (0 : Int32).toInt = 0 := rfl
            have r4 := rng32 cs
            have e5 : (255 : Int32).toInt = 255 := rfl
            have r9 := rng32 c1
            have e8 : ((c1 &&& (255 : Int32))).toInt = (c1).toInt % 256 := c_mask c1 (255 : Int32) 8 (by decide) (by decide)
            have e7 := c_i2c (c1 &&& (255 : Int32))
            have e6 : (((nar .char (((c1 &&& (255 : Int32))).toUInt32.toUInt16.toUInt32.toInt32))).toInt - ((((c1 &&& (255 : Int32))).toUInt32.toUInt16.toUInt32.toInt32)).toInt) % 65536 = 0 ∧ 0 ≤ ((nar .char (((c1 &&& (255 : Int32))).toUInt32.toUInt16.toUInt32.toInt32))).toInt ∧ ((nar .char (((c1 &&& (255 : Int32))).toUInt32.toUInt16.toUInt32.toInt32))).toInt < 65536 := c_i2c (((c1 &&& (255 : Int32))).toUInt32.toUInt16.toUInt32.toInt32)
            have r13 := rng32 c2
            have e12 : ((c2 &&& (255 : Int32))).toInt = (c2).toInt % 256 := c_mask c2 (255 : Int32) 8 (by decide) (by decide)
            have e11 := c_i2c (c2 &&& (255 : Int32))
            have e10 : (((nar .char (((c2 &&& (255 : Int32))).toUInt32.toUInt16.toUInt32.toInt32))).toInt - ((((c2 &&& (255 : Int32))).toUInt32.toUInt16.toUInt32.toInt32)).toInt) % 65536 = 0 ∧ 0 ≤ ((nar .char (((c2 &&& (255 : Int32))).toUInt32.toUInt16.toUInt32.toInt32))).toInt ∧ ((nar .char (((c2 &&& (255 : Int32))).toUInt32.toUInt16.toUInt32.toInt32))).toInt < 65536 := c_i2c (((c2 &&& (255 : Int32))).toUInt32.toUInt16.toUInt32.toInt32)
            have e15 : (196 : Int32).toInt = 196 := rfl
            have r18 := rng32 a
            have e17 : ((a &&& (2147483647 : Int32))).toInt = (a).toInt % 2147483648 := c_mask a (2147483647 : Int32) 31 (by decide) (by decide)
            have e16 : (0 ≤ ((a &&& (2147483647 : Int32))).toInt → (((a &&& (2147483647 : Int32)) % (13 : Int32))).toInt = ((a &&& (2147483647 : Int32))).toInt % 13) ∧ (((a &&& (2147483647 : Int32))).toInt < 0 → (((a &&& (2147483647 : Int32)) % (13 : Int32))).toInt = -((-((a &&& (2147483647 : Int32))).toInt) % 13)) := c_irem (a &&& (2147483647 : Int32)) (13 : Int32) 13 rfl
            have e14 := c_iadd (196 : Int32) ((a &&& (2147483647 : Int32)) % (13 : Int32))
            have r14 := rng32 ((196 : Int32) + ((a &&& (2147483647 : Int32)) % (13 : Int32)))
            have e19 : (200 : Int32).toInt = 200 := rfl
            have e21 := c_i2l ((196 : Int32) + ((a &&& (2147483647 : Int32)) % (13 : Int32)))
            have e22 : (200 : Int64).toInt = 200 := rfl
            have e20 := c_lsub ((((196 : Int32) + ((a &&& (2147483647 : Int32)) % (13 : Int32)))).toInt64) (200 : Int64)
            have r20 := rng64 (((((196 : Int32) + ((a &&& (2147483647 : Int32)) % (13 : Int32)))).toInt64) - (200 : Int64))
            have e23 : (0 : Int64).toInt = 0 := rfl
            have e24 : (4 : Int64).toInt = 4 := rfl
            have e25 : (201 : Int32).toInt = 201 := rfl
            have e26 : (202 : Int32).toInt = 202 := rfl
            have e27 : (203 : Int32).toInt = 203 := rfl
            have e28 : (1 : Int32).toInt = 1 := rfl
            omega
          · refine G.cast (st' := [(.int (0 : Int32)), (.int (0 : Int32))]) ?_ rfl
            refine g_icmp_ne cx d0_130 (fun q => absurd q (fun q => by revert q; decide)) (fun hc130 => ?_)
            refine g_iload cx d0_133 rfl ?_
            refine g_iload cx d0_135 rfl ?_
            refine g_icmp_ne cx d0_137 (fun hc137 => ?_) (fun q => absurd q (fun q => by revert q; decide))
            refine g_iconst cx d0_144 (v := (0 : Int32)) rfl ?_
            refine g_retZ cx d0_145 rfl rfl (by decide) (by decide) ?_
            exfalso
            have i_hc3 : ¬ ((sel &&& (1 : Int32))).toInt = ((0 : Int32)).toInt := fun z => hc3 (Int32.toInt_inj.mp z)
            have i_hq361 : ¬ (cs).toInt = ((0 : Int32)).toInt := fun z => hq361 (Int32.toInt_inj.mp z)
            have i_hq362 : ¬ ((255 : Int32)).toInt < ((nar .char (((c1 &&& (255 : Int32))).toUInt32.toUInt16.toUInt32.toInt32))).toInt := fun z => hq362 (Int32.lt_iff_toInt_lt.mpr z)
            have i_hq375 : ¬ (cs).toInt = ((0 : Int32)).toInt := fun z => hq375 (Int32.toInt_inj.mp z)
            have i_hq376 : ¬ ((255 : Int32)).toInt < ((nar .char (((c2 &&& (255 : Int32))).toUInt32.toUInt16.toUInt32.toInt32))).toInt := fun z => hq376 (Int32.lt_iff_toInt_lt.mpr z)
            have i_hq385 : (((196 : Int32) + ((a &&& (2147483647 : Int32)) % (13 : Int32)))).toInt < ((200 : Int32)).toInt := Int32.lt_iff_toInt_lt.mp hq385
            have i_hc104 : ¬ ((((((196 : Int32) + ((a &&& (2147483647 : Int32)) % (13 : Int32)))).toInt64) - (200 : Int64))).toInt < ((0 : Int64)).toInt := fun z => hc104 (Int64.lt_iff_toInt_lt.mpr z)
            have i_hc113 : ¬ ((4 : Int64)).toInt < ((((((196 : Int32) + ((a &&& (2147483647 : Int32)) % (13 : Int32)))).toInt64) - (200 : Int64))).toInt := fun z => hc113 (Int64.lt_iff_toInt_lt.mpr z)
            have i_hq468 : ¬ (((196 : Int32) + ((a &&& (2147483647 : Int32)) % (13 : Int32)))).toInt = ((200 : Int32)).toInt := fun z => hq468 (Int32.toInt_inj.mp z)
            have i_hq469 : ¬ (((196 : Int32) + ((a &&& (2147483647 : Int32)) % (13 : Int32)))).toInt = ((201 : Int32)).toInt := fun z => hq469 (Int32.toInt_inj.mp z)
            have i_hq470 : ¬ (((196 : Int32) + ((a &&& (2147483647 : Int32)) % (13 : Int32)))).toInt = ((202 : Int32)).toInt := fun z => hq470 (Int32.toInt_inj.mp z)
            have i_hq471 : ¬ (((196 : Int32) + ((a &&& (2147483647 : Int32)) % (13 : Int32)))).toInt = ((203 : Int32)).toInt := fun z => hq471 (Int32.toInt_inj.mp z)
            have i_hq472 : ¬ (((196 : Int32) + ((a &&& (2147483647 : Int32)) % (13 : Int32)))).toInt = ((204 : Int32)).toInt := fun z => hq472 (Int32.toInt_inj.mp z)
            have i_hc130 : ((0 : Int32)).toInt = ((0 : Int32)).toInt := congrArg Int32.toInt hc130
            have i_hc137 : ¬ ((0 : Int32)).toInt = ((1 : Int32)).toInt := fun z => hc137 (Int32.toInt_inj.mp z)
            have r2 := rng32 sel
            have e1 : ((sel &&& (1 : Int32))).toInt = (sel).toInt % 2 := c_mask sel (1 : Int32) 1 (by decide) (by decide)
            have e3 : (0 : Int32).toInt = 0 := rfl
            have r4 := rng32 cs
            have e5 : (255 : Int32).toInt = 255 := rfl
            have r9 := rng32 c1
            have e8 : ((c1 &&& (255 : Int32))).toInt = (c1).toInt % 256 := c_mask c1 (255 : Int32) 8 (by decide) (by decide)
            have e7 := c_i2c (c1 &&& (255 : Int32))
            have e6 : (((nar .char (((c1 &&& (255 : Int32))).toUInt32.toUInt16.toUInt32.toInt32))).toInt - ((((c1 &&& (255 : Int32))).toUInt32.toUInt16.toUInt32.toInt32)).toInt) % 65536 = 0 ∧ 0 ≤ ((nar .char (((c1 &&& (255 : Int32))).toUInt32.toUInt16.toUInt32.toInt32))).toInt ∧ ((nar .char (((c1 &&& (255 : Int32))).toUInt32.toUInt16.toUInt32.toInt32))).toInt < 65536 := c_i2c (((c1 &&& (255 : Int32))).toUInt32.toUInt16.toUInt32.toInt32)
            have r13 := rng32 c2
            have e12 : ((c2 &&& (255 : Int32))).toInt = (c2).toInt % 256 := c_mask c2 (255 : Int32) 8 (by decide) (by decide)
            have e11 := c_i2c (c2 &&& (255 : Int32))
            have e10 : (((nar .char (((c2 &&& (255 : Int32))).toUInt32.toUInt16.toUInt32.toInt32))).toInt - ((((c2 &&& (255 : Int32))).toUInt32.toUInt16.toUInt32.toInt32)).toInt) % 65536 = 0 ∧ 0 ≤ ((nar .char (((c2 &&& (255 : Int32))).toUInt32.toUInt16.toUInt32.toInt32))).toInt ∧ ((nar .char (((c2 &&& (255 : Int32))).toUInt32.toUInt16.toUInt32.toInt32))).toInt < 65536 := c_i2c (((c2 &&& (255 : Int32))).toUInt32.toUInt16.toUInt32.toInt32)
            have e15 : (196 : Int32).toInt = 196 := rfl
            have r18 := rng32 a
            have e17 : ((a &&& (2147483647 : Int32))).toInt = (a).toInt % 2147483648 := c_mask a (2147483647 : Int32) 31 (by decide) (by decide)
            have e16 : (0 ≤ ((a &&& (2147483647 : Int32))).toInt → (((a &&& (2147483647 : Int32)) % (13 : Int32))).toInt = ((a &&& (2147483647 : Int32))).toInt % 13) ∧ (((a &&& (2147483647 : Int32))).toInt < 0 → (((a &&& (2147483647 : Int32)) % (13 : Int32))).toInt = -((-((a &&& (2147483647 : Int32))).toInt) % 13)) := c_irem (a &&& (2147483647 : Int32)) (13 : Int32) 13 rfl
            have e14 := c_iadd (196 : Int32) ((a &&& (2147483647 : Int32)) % (13 : Int32))
            have r14 := rng32 ((196 : Int32) + ((a &&& (2147483647 : Int32)) % (13 : Int32)))
            have e19 : (200 : Int32).toInt = 200 := rfl
            have e21 := c_i2l ((196 : Int32) + ((a &&& (2147483647 : Int32)) % (13 : Int32)))
            have e22 : (200 : Int64).toInt = 200 := rfl
            have e20 := c_lsub ((((196 : Int32) + ((a &&& (2147483647 : Int32)) % (13 : Int32)))).toInt64) (200 : Int64)
            have r20 := rng64 (((((196 : Int32) + ((a &&& (2147483647 : Int32)) % (13 : Int32)))).toInt64) - (200 : Int64))
            have e23 : (0 : Int64).toInt = 0 := rfl
            have e24 : (4 : Int64).toInt = 4 := rfl
            have e25 : (201 : Int32).toInt = 201 := rfl
            have e26 : (202 : Int32).toInt = 202 := rfl
            have e27 : (203 : Int32).toInt = 203 := rfl
            have e28 : (204 : Int32).toInt = 204 := rfl
            have e29 : (1 : Int32).toInt = 1 := rfl
            omega
          · refine G.cast (st' := [(.int (1 : Int32)), (.int (0 : Int32))]) ?_ rfl
            refine g_icmp_ne cx d0_130 (fun hc130 => ?_) (fun q => absurd q (fun q => by revert q; decide))
            refine g_iconst cx d0_144 (v := (0 : Int32)) rfl ?_
            refine g_retZ cx d0_145 rfl rfl (by decide) (by decide) ?_
            exfalso
            have i_hc3 : ¬ ((sel &&& (1 : Int32))).toInt = ((0 : Int32)).toInt := fun z => hc3 (Int32.toInt_inj.mp z)
            have i_hq361 : ¬ (cs).toInt = ((0 : Int32)).toInt := fun z => hq361 (Int32.toInt_inj.mp z)
            have i_hq362 : ¬ ((255 : Int32)).toInt < ((nar .char (((c1 &&& (255 : Int32))).toUInt32.toUInt16.toUInt32.toInt32))).toInt := fun z => hq362 (Int32.lt_iff_toInt_lt.mpr z)
            have i_hq375 : ¬ (cs).toInt = ((0 : Int32)).toInt := fun z => hq375 (Int32.toInt_inj.mp z)
            have i_hq376 : ¬ ((255 : Int32)).toInt < ((nar .char (((c2 &&& (255 : Int32))).toUInt32.toUInt16.toUInt32.toInt32))).toInt := fun z => hq376 (Int32.lt_iff_toInt_lt.mpr z)
            have i_hq385 : (((196 : Int32) + ((a &&& (2147483647 : Int32)) % (13 : Int32)))).toInt < ((200 : Int32)).toInt := Int32.lt_iff_toInt_lt.mp hq385
            have i_hc104 : ¬ ((((((196 : Int32) + ((a &&& (2147483647 : Int32)) % (13 : Int32)))).toInt64) - (200 : Int64))).toInt < ((0 : Int64)).toInt := fun z => hc104 (Int64.lt_iff_toInt_lt.mpr z)
            have i_hc113 : ¬ ((4 : Int64)).toInt < ((((((196 : Int32) + ((a &&& (2147483647 : Int32)) % (13 : Int32)))).toInt64) - (200 : Int64))).toInt := fun z => hc113 (Int64.lt_iff_toInt_lt.mpr z)
            have i_hq474 : ¬ (((196 : Int32) + ((a &&& (2147483647 : Int32)) % (13 : Int32)))).toInt = ((200 : Int32)).toInt := fun z => hq474 (Int32.toInt_inj.mp z)
            have i_hq475 : ¬ (((196 : Int32) + ((a &&& (2147483647 : Int32)) % (13 : Int32)))).toInt = ((201 : Int32)).toInt := fun z => hq475 (Int32.toInt_inj.mp z)
            have i_hq476 : ¬ (((196 : Int32) + ((a &&& (2147483647 : Int32)) % (13 : Int32)))).toInt = ((202 : Int32)).toInt := fun z => hq476 (Int32.toInt_inj.mp z)
            have i_hq477 : ¬ (((196 : Int32) + ((a &&& (2147483647 : Int32)) % (13 : Int32)))).toInt = ((203 : Int32)).toInt := fun z => hq477 (Int32.toInt_inj.mp z)
            have i_hq478 : (((196 : Int32) + ((a &&& (2147483647 : Int32)) % (13 : Int32)))).toInt = ((204 : Int32)).toInt := congrArg Int32.toInt hq478
            have i_hc130 : ¬ ((0 : Int32)).toInt = ((1 : Int32)).toInt := fun z => hc130 (Int32.toInt_inj.mp z)
            have r2 := rng32 sel
            have e1 : ((sel &&& (1 : Int32))).toInt = (sel).toInt % 2 := c_mask sel (1 : Int32) 1 (by decide) (by decide)
            have e3 : (0 : Int32).toInt = 0 := rfl
            have r4 := rng32 cs
            have e5 : (255 : Int32).toInt = 255 := rfl
            have r9 := rng32 c1
            have e8 : ((c1 &&& (255 : Int32))).toInt = (c1).toInt % 256 := c_mask c1 (255 : Int32) 8 (by decide) (by decide)
            have e7 := c_i2c (c1 &&& (255 : Int32))
            have e6 : (((nar .char (((c1 &&& (255 : Int32))).toUInt32.toUInt16.toUInt32.toInt32))).toInt - ((((c1 &&& (255 : Int32))).toUInt32.toUInt16.toUInt32.toInt32)).toInt) % 65536 = 0 ∧ 0 ≤ ((nar .char (((c1 &&& (255 : Int32))).toUInt32.toUInt16.toUInt32.toInt32))).toInt ∧ ((nar .char (((c1 &&& (255 : Int32))).toUInt32.toUInt16.toUInt32.toInt32))).toInt < 65536 := c_i2c (((c1 &&& (255 : Int32))).toUInt32.toUInt16.toUInt32.toInt32)
            have r13 := rng32 c2
            have e12 : ((c2 &&& (255 : Int32))).toInt = (c2).toInt % 256 := c_mask c2 (255 : Int32) 8 (by decide) (by decide)
            have e11 := c_i2c (c2 &&& (255 : Int32))
            have e10 : (((nar .char (((c2 &&& (255 : Int32))).toUInt32.toUInt16.toUInt32.toInt32))).toInt - ((((c2 &&& (255 : Int32))).toUInt32.toUInt16.toUInt32.toInt32)).toInt) % 65536 = 0 ∧ 0 ≤ ((nar .char (((c2 &&& (255 : Int32))).toUInt32.toUInt16.toUInt32.toInt32))).toInt ∧ ((nar .char (((c2 &&& (255 : Int32))).toUInt32.toUInt16.toUInt32.toInt32))).toInt < 65536 := c_i2c (((c2 &&& (255 : Int32))).toUInt32.toUInt16.toUInt32.toInt32)
            have e15 : (196 : Int32).toInt = 196 := rfl
            have r18 := rng32 a
            have e17 : ((a &&& (2147483647 : Int32))).toInt = (a).toInt % 2147483648 := c_mask a (2147483647 : Int32) 31 (by decide) (by decide)
            have e16 : (0 ≤ ((a &&& (2147483647 : Int32))).toInt → (((a &&& (2147483647 : Int32)) % (13 : Int32))).toInt = ((a &&& (2147483647 : Int32))).toInt % 13) ∧ (((a &&& (2147483647 : Int32))).toInt < 0 → (((a &&& (2147483647 : Int32)) % (13 : Int32))).toInt = -((-((a &&& (2147483647 : Int32))).toInt) % 13)) := c_irem (a &&& (2147483647 : Int32)) (13 : Int32) 13 rfl
            have e14 := c_iadd (196 : Int32) ((a &&& (2147483647 : Int32)) % (13 : Int32))
            have r14 := rng32 ((196 : Int32) + ((a &&& (2147483647 : Int32)) % (13 : Int32)))
            have e19 : (200 : Int32).toInt = 200 := rfl
            have e21 := c_i2l ((196 : Int32) + ((a &&& (2147483647 : Int32)) % (13 : Int32)))
            have e22 : (200 : Int64).toInt = 200 := rfl
            have e20 := c_lsub ((((196 : Int32) + ((a &&& (2147483647 : Int32)) % (13 : Int32)))).toInt64) (200 : Int64)
            have r20 := rng64 (((((196 : Int32) + ((a &&& (2147483647 : Int32)) % (13 : Int32)))).toInt64) - (200 : Int64))
            have e23 : (0 : Int64).toInt = 0 := rfl
            have e24 : (4 : Int64).toInt = 4 := rfl
            have e25 : (201 : Int32).toInt = 201 := rfl
            have e26 : (202 : Int32).toInt = 202 := rfl
            have e27 : (203 : Int32).toInt = 203 := rfl
            have e28 : (204 : Int32).toInt = 204 := rfl
            have e29 : (1 : Int32).toInt = 1 := rfl
            omega
    · refine G.cast (st' := [(.int (0 : Int32))]) ?_ rfl
      refine g_istore cx d0_89 (Ls' := #[.val (.int a), .val (.int sel), .val (.int c1), .val (.int c2), .val (.int ((196 : Int32) + ((a &&& (2147483647 : Int32)) % (13 : Int32)))), .val (.ref b330), .val (.ref b339), .val (.ref b348), .val (.int (0 : Int32)), .unset, .unset, .unset]) rfl ?_
      refine g_iload cx d0_91 rfl ?_
      refine g_i2l cx d0_93 ?_
      refine g_ldcJ cx d0_94 (hw _ (List.mem_of_getElem? (i := 54) rfl)) ?_
      refine g_lsub cx d0_97 ?_
      refine g_lstore cx d0_98 (Ls' := #[.val (.int a), .val (.int sel), .val (.int c1), .val (.int c2), .val (.int ((196 : Int32) + ((a &&& (2147483647 : Int32)) % (13 : Int32)))), .val (.ref b330), .val (.ref b339), .val (.ref b348), .val (.int (0 : Int32)), .val (.long (((((196 : Int32) + ((a &&& (2147483647 : Int32)) % (13 : Int32)))).toInt64) - (200 : Int64))), .second, .unset]) rfl ?_
      refine g_lload cx d0_100 rfl ?_
      refine g_lconst cx d0_102 (v := (0 : Int64)) rfl ?_
      refine g_lif_lt cx d0_103 d0_104 (fun hc104 => ?_) (fun hc104 => ?_)
      · refine g_iconst cx d0_120 (v := (0 : Int32)) rfl ?_
        refine g_istore cx d0_121 (Ls' := #[.val (.int a), .val (.int sel), .val (.int c1), .val (.int c2), .val (.int ((196 : Int32) + ((a &&& (2147483647 : Int32)) % (13 : Int32)))), .val (.ref b330), .val (.ref b339), .val (.ref b348), .val (.int (0 : Int32)), .val (.long (((((196 : Int32) + ((a &&& (2147483647 : Int32)) % (13 : Int32)))).toInt64) - (200 : Int64))), .second, .val (.int (0 : Int32))]) rfl ?_
        refine g_iload cx d0_123 rfl ?_
        refine g_iload cx d0_125 rfl ?_
        refine g_static cx (y := (⟨"com/example/egret/egret/service/OutcomeDeliveredPinLaw", "isSuccessStatus", "(I)Z"⟩ : MethodName)) d0_127 (hw _ (List.mem_of_getElem? (i := 55) rfl)) (hw _ (List.mem_of_getElem? (i := 56) rfl)) (hw _ (List.mem_of_getElem? (i := 57) rfl)) (hw _ (List.mem_of_getElem? (i := 58) rfl)) (by decide) (bytes := method_2_code) (maxL' := 1) (M := (ra8 l Z a0 hw ((196 : Int32) + ((a &&& (2147483647 : Int32)) % (13 : Int32))) _  OL cs SCS ncs)) rfl (lenOf pd_8 rfl) (by decide) (W := 1) (Nat.le_of_eq rfl) (by decide) (k' := 7) (n' := 15) rfl rfl (by decide) (by decide) (argsL := [(.int ((196 : Int32) + ((a &&& (2147483647 : Int32)) % (13 : Int32))))]) (rest := [(.int (0 : Int32))]) rfl (fun v510 h509 q511 => ?_)
        rcases q511 with ⟨hq483, rfl, rfl⟩ | ⟨hq485, hq486, rfl, rfl⟩ | ⟨hq488, hq489, hq490, rfl, rfl⟩ | ⟨hq492, hq493, hq494, hq495, rfl, rfl⟩ | ⟨hq497, hq498, hq499, hq500, hq501, rfl, rfl⟩ | ⟨hq503, hq504, hq505, hq506, hq507, rfl, rfl⟩
        · refine G.cast (st' := [(.int (1 : Int32)), (.int (0 : Int32))]) ?_ rfl
          refine g_icmp_ne cx d0_130 (fun hc130 => ?_) (fun q => absurd q (fun q => by revert q; decide))
          refine g_iconst cx d0_144 (v := (0 : Int32)) rfl ?_
          refine g_retZ cx d0_145 rfl rfl (by decide) (by decide) ?_
          exfalso
          have i_hc3 : ¬ ((sel &&& (1 : Int32))).toInt = ((0 : Int32)).toInt := fun z => hc3 (Int32.toInt_inj.mp z)
          have i_hq361 : ¬ (cs).toInt = ((0 : Int32)).toInt := fun z => hq361 (Int32.toInt_inj.mp z)
          have i_hq362 : ¬ ((255 : Int32)).toInt < ((nar .char (((c1 &&& (255 : Int32))).toUInt32.toUInt16.toUInt32.toInt32))).toInt := fun z => hq362 (Int32.lt_iff_toInt_lt.mpr z)
          have i_hq375 : ¬ (cs).toInt = ((0 : Int32)).toInt := fun z => hq375 (Int32.toInt_inj.mp z)
          have i_hq376 : ¬ ((255 : Int32)).toInt < ((nar .char (((c2 &&& (255 : Int32))).toUInt32.toUInt16.toUInt32.toInt32))).toInt := fun z => hq376 (Int32.lt_iff_toInt_lt.mpr z)
          have i_hq387 : ¬ (((196 : Int32) + ((a &&& (2147483647 : Int32)) % (13 : Int32)))).toInt < ((200 : Int32)).toInt := fun z => hq387 (Int32.lt_iff_toInt_lt.mpr z)
          have i_hq388 : ((204 : Int32)).toInt < (((196 : Int32) + ((a &&& (2147483647 : Int32)) % (13 : Int32)))).toInt := Int32.lt_iff_toInt_lt.mp hq388
          have i_hc104 : ((((((196 : Int32) + ((a &&& (2147483647 : Int32)) % (13 : Int32)))).toInt64) - (200 : Int64))).toInt < ((0 : Int64)).toInt := Int64.lt_iff_toInt_lt.mp hc104
          have i_hq483 : (((196 : Int32) + ((a &&& (2147483647 : Int32)) % (13 : Int32)))).toInt = ((200 : Int32)).toInt := congrArg Int32.toInt hq483
          have i_hc130 : ¬ ((0 : Int32)).toInt = ((1 : Int32)).toInt := fun z => hc130 (Int32.toInt_inj.mp z)
          have r2 := rng32 sel
          have e1 : ((sel &&& (1 : Int32))).toInt = (sel).toInt % 2 := c_mask sel (1 : Int32) 1 (by decide) (by decide)
          have e3 : (0 : Int32).toInt = 0 := rfl
          have r4 := rng32 cs
          have e5 : (255 : Int32).toInt = 255 := rfl
          have r9 := rng32 c1
          have e8 : ((c1 &&& (255 : Int32))).toInt = (c1).toInt % 256 := c_mask c1 (255 : Int32) 8 (by decide) (by decide)
          have e7 := c_i2c (c1 &&& (255 : Int32))
          have e6 : (((nar .char (((c1 &&& (255 : Int32))).toUInt32.toUInt16.toUInt32.toInt32))).toInt - ((((c1 &&& (255 : Int32))).toUInt32.toUInt16.toUInt32.toInt32)).toInt) % 65536 = 0 ∧ 0 ≤ ((nar .char (((c1 &&& (255 : Int32))).toUInt32.toUInt16.toUInt32.toInt32))).toInt ∧ ((nar .char (((c1 &&& (255 : Int32))).toUInt32.toUInt16.toUInt32.toInt32))).toInt < 65536 := c_i2c (((c1 &&& (255 : Int32))).toUInt32.toUInt16.toUInt32.toInt32)
          have r13 := rng32 c2
          have e12 : ((c2 &&& (255 : Int32))).toInt = (c2).toInt % 256 := c_mask c2 (255 : Int32) 8 (by decide) (by decide)
          have e11 := c_i2c (c2 &&& (255 : Int32))
          have e10 : (((nar .char (((c2 &&& (255 : Int32))).toUInt32.toUInt16.toUInt32.toInt32))).toInt - ((((c2 &&& (255 : Int32))).toUInt32.toUInt16.toUInt32.toInt32)).toInt) % 65536 = 0 ∧ 0 ≤ ((nar .char (((c2 &&& (255 : Int32))).toUInt32.toUInt16.toUInt32.toInt32))).toInt ∧ ((nar .char (((c2 &&& (255 : Int32))).toUInt32.toUInt16.toUInt32.toInt32))).toInt < 65536 := c_i2c (((c2 &&& (255 : Int32))).toUInt32.toUInt16.toUInt32.toInt32)
          have e15 : (196 : Int32).toInt = 196 := rfl
          have r18 := rng32 a
          have e17 : ((a &&& (2147483647 : Int32))).toInt = (a).toInt % 2147483648 := c_mask a (2147483647 : Int32) 31 (by decide) (by decide)
          have e16 : (0 ≤ ((a &&& (2147483647 : Int32))).toInt → (((a &&& (2147483647 : Int32)) % (13 : Int32))).toInt = ((a &&& (2147483647 : Int32))).toInt % 13) ∧ (((a &&& (2147483647 : Int32))).toInt < 0 → (((a &&& (2147483647 : Int32)) % (13 : Int32))).toInt = -((-((a &&& (2147483647 : Int32))).toInt) % 13)) := c_irem (a &&& (2147483647 : Int32)) (13 : Int32) 13 rfl
          have e14 := c_iadd (196 : Int32) ((a &&& (2147483647 : Int32)) % (13 : Int32))
          have r14 := rng32 ((196 : Int32) + ((a &&& (2147483647 : Int32)) % (13 : Int32)))
          have e19 : (200 : Int32).toInt = 200 := rfl
          have e20 : (204 : Int32).toInt = 204 := rfl
          have e22 := c_i2l ((196 : Int32) + ((a &&& (2147483647 : Int32)) % (13 : Int32)))
          have e23 : (200 : Int64).toInt = 200 := rfl
          have e21 := c_lsub ((((196 : Int32) + ((a &&& (2147483647 : Int32)) % (13 : Int32)))).toInt64) (200 : Int64)
          have r21 := rng64 (((((196 : Int32) + ((a &&& (2147483647 : Int32)) % (13 : Int32)))).toInt64) - (200 : Int64))
          have e24 : (0 : Int64).toInt = 0 := rfl
          have e25 : (1 : Int32).toInt = 1 := rfl
          omega
        · refine G.cast (st' := [(.int (1 : Int32)), (.int (0 : Int32))]) ?_ rfl
          refine g_icmp_ne cx d0_130 (fun hc130 => ?_) (fun q => absurd q (fun q => by revert q; decide))
          refine g_iconst cx d0_144 (v := (0 : Int32)) rfl ?_
          refine g_retZ cx d0_145 rfl rfl (by decide) (by decide) ?_
          exfalso
          have i_hc3 : ¬ ((sel &&& (1 : Int32))).toInt = ((0 : Int32)).toInt := fun z => hc3 (Int32.toInt_inj.mp z)
          have i_hq361 : ¬ (cs).toInt = ((0 : Int32)).toInt := fun z => hq361 (Int32.toInt_inj.mp z)
          have i_hq362 : ¬ ((255 : Int32)).toInt < ((nar .char (((c1 &&& (255 : Int32))).toUInt32.toUInt16.toUInt32.toInt32))).toInt := fun z => hq362 (Int32.lt_iff_toInt_lt.mpr z)
          have i_hq375 : ¬ (cs).toInt = ((0 : Int32)).toInt := fun z => hq375 (Int32.toInt_inj.mp z)
          have i_hq376 : ¬ ((255 : Int32)).toInt < ((nar .char (((c2 &&& (255 : Int32))).toUInt32.toUInt16.toUInt32.toInt32))).toInt := fun z => hq376 (Int32.lt_iff_toInt_lt.mpr z)
          have i_hq387 : ¬ (((196 : Int32) + ((a &&& (2147483647 : Int32)) % (13 : Int32)))).toInt < ((200 : Int32)).toInt := fun z => hq387 (Int32.lt_iff_toInt_lt.mpr z)
          have i_hq388 : ((204 : Int32)).toInt < (((196 : Int32) + ((a &&& (2147483647 : Int32)) % (13 : Int32)))).toInt := Int32.lt_iff_toInt_lt.mp hq388
          have i_hc104 : ((((((196 : Int32) + ((a &&& (2147483647 : Int32)) % (13 : Int32)))).toInt64) - (200 : Int64))).toInt < ((0 : Int64)).toInt := Int64.lt_iff_toInt_lt.mp hc104
          have i_hq485 : ¬ (((196 : Int32) + ((a &&& (2147483647 : Int32)) % (13 : Int32)))).toInt = ((200 : Int32)).toInt := fun z => hq485 (Int32.toInt_inj.mp z)
          have i_hq486 : (((196 : Int32) + ((a &&& (2147483647 : Int32)) % (13 : Int32)))).toInt = ((201 : Int32)).toInt := congrArg Int32.toInt hq486
          have i_hc130 : ¬ ((0 : Int32)).toInt = ((1 : Int32)).toInt := fun z => hc130 (Int32.toInt_inj.mp z)
          have r2 := rng32 sel
          have e1 : ((sel &&& (1 : Int32))).toInt = (sel).toInt % 2 := c_mask sel (1 : Int32) 1 (by decide) (by decide)
          have e3 : (0 : Int32).toInt = 0 := rfl
          have r4 := rng32 cs
          have e5 : (255 : Int32).toInt = 255 := rfl
          have r9 := rng32 c1
          have e8 : ((c1 &&& (255 : Int32))).toInt = (c1).toInt % 256 := c_mask c1 (255 : Int32) 8 (by decide) (by decide)
          have e7 := c_i2c (c1 &&& (255 : Int32))
          have e6 : (((nar .char (((c1 &&& (255 : Int32))).toUInt32.toUInt16.toUInt32.toInt32))).toInt - ((((c1 &&& (255 : Int32))).toUInt32.toUInt16.toUInt32.toInt32)).toInt) % 65536 = 0 ∧ 0 ≤ ((nar .char (((c1 &&& (255 : Int32))).toUInt32.toUInt16.toUInt32.toInt32))).toInt ∧ ((nar .char (((c1 &&& (255 : Int32))).toUInt32.toUInt16.toUInt32.toInt32))).toInt < 65536 := c_i2c (((c1 &&& (255 : Int32))).toUInt32.toUInt16.toUInt32.toInt32)
          have r13 := rng32 c2
          have e12 : ((c2 &&& (255 : Int32))).toInt = (c2).toInt % 256 := c_mask c2 (255 : Int32) 8 (by decide) (by decide)
          have e11 := c_i2c (c2 &&& (255 : Int32))
          have e10 : (((nar .char (((c2 &&& (255 : Int32))).toUInt32.toUInt16.toUInt32.toInt32))).toInt - ((((c2 &&& (255 : Int32))).toUInt32.toUInt16.toUInt32.toInt32)).toInt) % 65536 = 0 ∧ 0 ≤ ((nar .char (((c2 &&& (255 : Int32))).toUInt32.toUInt16.toUInt32.toInt32))).toInt ∧ ((nar .char (((c2 &&& (255 : Int32))).toUInt32.toUInt16.toUInt32.toInt32))).toInt < 65536 := c_i2c (((c2 &&& (255 : Int32))).toUInt32.toUInt16.toUInt32.toInt32)
          have e15 : (196 : Int32).toInt = 196 := rfl
          have r18 := rng32 a
          have e17 : ((a &&& (2147483647 : Int32))).toInt = (a).toInt % 2147483648 := c_mask a (2147483647 : Int32) 31 (by decide) (by decide)
          have e16 : (0 ≤ ((a &&& (2147483647 : Int32))).toInt → (((a &&& (2147483647 : Int32)) % (13 : Int32))).toInt = ((a &&& (2147483647 : Int32))).toInt % 13) ∧ (((a &&& (2147483647 : Int32))).toInt < 0 → (((a &&& (2147483647 : Int32)) % (13 : Int32))).toInt = -((-((a &&& (2147483647 : Int32))).toInt) % 13)) := c_irem (a &&& (2147483647 : Int32)) (13 : Int32) 13 rfl
          have e14 := c_iadd (196 : Int32) ((a &&& (2147483647 : Int32)) % (13 : Int32))
          have r14 := rng32 ((196 : Int32) + ((a &&& (2147483647 : Int32)) % (13 : Int32)))
          have e19 : (200 : Int32).toInt = 200 := rfl
          have e20 : (204 : Int32).toInt = 204 := rfl
          have e22 := c_i2l ((196 : Int32) + ((a &&& (2147483647 : Int32)) % (13 : Int32)))
          have e23 : (200 : Int64).toInt = 200 := rfl
          have e21 := c_lsub ((((196 : Int32) + ((a &&& (2147483647 : Int32)) % (13 : Int32)))).toInt64) (200 : Int64)
          have r21 := rng64 (((((196 : Int32) + ((a &&& (2147483647 : Int32)) % (13 : Int32)))).toInt64) - (200 : Int64))
          have e24 : (0 : Int64).toInt = 0 := rfl
          have e25 : (201 : Int32).toInt = 201 := rfl
          have e26 : (1 : Int32).toInt = 1 := rfl
          omega
        · refine G.cast (st' := [(.int (1 : Int32)), (.int (0 : Int32))]) ?_ rfl
          refine g_icmp_ne cx d0_130 (fun hc130 => ?_) (fun q => absurd q (fun q => by revert q; decide))
          refine g_iconst cx d0_144 (v := (0 : Int32)) rfl ?_
          refine g_retZ cx d0_145 rfl rfl (by decide) (by decide) ?_
          exfalso
          have i_hc3 : ¬ ((sel &&& (1 : Int32))).toInt = ((0 : Int32)).toInt := fun z => hc3 (Int32.toInt_inj.mp z)
          have i_hq361 : ¬ (cs).toInt = ((0 : Int32)).toInt := fun z => hq361 (Int32.toInt_inj.mp z)
          have i_hq362 : ¬ ((255 : Int32)).toInt < ((nar .char (((c1 &&& (255 : Int32))).toUInt32.toUInt16.toUInt32.toInt32))).toInt := fun z => hq362 (Int32.lt_iff_toInt_lt.mpr z)
          have i_hq375 : ¬ (cs).toInt = ((0 : Int32)).toInt := fun z => hq375 (Int32.toInt_inj.mp z)
          have i_hq376 : ¬ ((255 : Int32)).toInt < ((nar .char (((c2 &&& (255 : Int32))).toUInt32.toUInt16.toUInt32.toInt32))).toInt := fun z => hq376 (Int32.lt_iff_toInt_lt.mpr z)
          have i_hq387 : ¬ (((196 : Int32) + ((a &&& (2147483647 : Int32)) % (13 : Int32)))).toInt < ((200 : Int32)).toInt := fun z => hq387 (Int32.lt_iff_toInt_lt.mpr z)
          have i_hq388 : ((204 : Int32)).toInt < (((196 : Int32) + ((a &&& (2147483647 : Int32)) % (13 : Int32)))).toInt := Int32.lt_iff_toInt_lt.mp hq388
          have i_hc104 : ((((((196 : Int32) + ((a &&& (2147483647 : Int32)) % (13 : Int32)))).toInt64) - (200 : Int64))).toInt < ((0 : Int64)).toInt := Int64.lt_iff_toInt_lt.mp hc104
          have i_hq488 : ¬ (((196 : Int32) + ((a &&& (2147483647 : Int32)) % (13 : Int32)))).toInt = ((200 : Int32)).toInt := fun z => hq488 (Int32.toInt_inj.mp z)
          have i_hq489 : ¬ (((196 : Int32) + ((a &&& (2147483647 : Int32)) % (13 : Int32)))).toInt = ((201 : Int32)).toInt := fun z => hq489 (Int32.toInt_inj.mp z)
          have i_hq490 : (((196 : Int32) + ((a &&& (2147483647 : Int32)) % (13 : Int32)))).toInt = ((202 : Int32)).toInt := congrArg Int32.toInt hq490
          have i_hc130 : ¬ ((0 : Int32)).toInt = ((1 : Int32)).toInt := fun z => hc130 (Int32.toInt_inj.mp z)
          have r2 := rng32 sel
          have e1 : ((sel &&& (1 : Int32))).toInt = (sel).toInt % 2 := c_mask sel (1 : Int32) 1 (by decide) (by decide)
          have e3 : (0 : Int32).toInt = 0 := rfl
          have r4 := rng32 cs
          have e5 : (255 : Int32).toInt = 255 := rfl
          have r9 := rng32 c1
          have e8 : ((c1 &&& (255 : Int32))).toInt = (c1).toInt % 256 := c_mask c1 (255 : Int32) 8 (by decide) (by decide)
          have e7 := c_i2c (c1 &&& (255 : Int32))
          have e6 : (((nar .char (((c1 &&& (255 : Int32))).toUInt32.toUInt16.toUInt32.toInt32))).toInt - ((((c1 &&& (255 : Int32))).toUInt32.toUInt16.toUInt32.toInt32)).toInt) % 65536 = 0 ∧ 0 ≤ ((nar .char (((c1 &&& (255 : Int32))).toUInt32.toUInt16.toUInt32.toInt32))).toInt ∧ ((nar .char (((c1 &&& (255 : Int32))).toUInt32.toUInt16.toUInt32.toInt32))).toInt < 65536 := c_i2c (((c1 &&& (255 : Int32))).toUInt32.toUInt16.toUInt32.toInt32)
          have r13 := rng32 c2
          have e12 : ((c2 &&& (255 : Int32))).toInt = (c2).toInt % 256 := c_mask c2 (255 : Int32) 8 (by decide) (by decide)
          have e11 := c_i2c (c2 &&& (255 : Int32))
          have e10 : (((nar .char (((c2 &&& (255 : Int32))).toUInt32.toUInt16.toUInt32.toInt32))).toInt - ((((c2 &&& (255 : Int32))).toUInt32.toUInt16.toUInt32.toInt32)).toInt) % 65536 = 0 ∧ 0 ≤ ((nar .char (((c2 &&& (255 : Int32))).toUInt32.toUInt16.toUInt32.toInt32))).toInt ∧ ((nar .char (((c2 &&& (255 : Int32))).toUInt32.toUInt16.toUInt32.toInt32))).toInt < 65536 := c_i2c (((c2 &&& (255 : Int32))).toUInt32.toUInt16.toUInt32.toInt32)
          have e15 : (196 : Int32).toInt = 196 := rfl
          have r18 := rng32 a
          have e17 : ((a &&& (2147483647 : Int32))).toInt = (a).toInt % 2147483648 := c_mask a (2147483647 : Int32) 31 (by decide) (by decide)
          have e16 : (0 ≤ ((a &&& (2147483647 : Int32))).toInt → (((a &&& (2147483647 : Int32)) % (13 : Int32))).toInt = ((a &&& (2147483647 : Int32))).toInt % 13) ∧ (((a &&& (2147483647 : Int32))).toInt < 0 → (((a &&& (2147483647 : Int32)) % (13 : Int32))).toInt = -((-((a &&& (2147483647 : Int32))).toInt) % 13)) := c_irem (a &&& (2147483647 : Int32)) (13 : Int32) 13 rfl
          have e14 := c_iadd (196 : Int32) ((a &&& (2147483647 : Int32)) % (13 : Int32))
          have r14 := rng32 ((196 : Int32) + ((a &&& (2147483647 : Int32)) % (13 : Int32)))
          have e19 : (200 : Int32).toInt = 200 := rfl
          have e20 : (204 : Int32).toInt = 204 := rfl
          have e22 := c_i2l ((196 : Int32) + ((a &&& (2147483647 : Int32)) % (13 : Int32)))
          have e23 : (200 : Int64).toInt = 200 := rfl
          have e21 := c_lsub ((((196 : Int32) + ((a &&& (2147483647 : Int32)) % (13 : Int32)))).toInt64) (200 : Int64)
          have r21 := rng64 (((((196 : Int32) + ((a &&& (2147483647 : Int32)) % (13 : Int32)))).toInt64) - (200 : Int64))
          have e24 : (0 : Int64).toInt = 0 := rfl
          have e25 : (201 : Int32).toInt = 201 := rfl
          have e26 : (202 : Int32).toInt = 202 := rfl
          have e27 : (1 : Int32).toInt = 1 := rfl
          omega
        · refine G.cast (st' := [(.int (1 : Int32)), (.int (0 : Int32))]) ?_ rfl
          refine g_icmp_ne cx d0_130 (fun hc130 => ?_) (fun q => absurd q (fun q => by revert q; decide))
          refine g_iconst cx d0_144 (v := (0 : Int32)) rfl ?_
          refine g_retZ cx d0_145 rfl rfl (by decide) (by decide) ?_
          exfalso
          have i_hc3 : ¬ ((sel &&& (1 : Int32))).toInt = ((0 : Int32)).toInt := fun z => hc3 (Int32.toInt_inj.mp z)
          have i_hq361 : ¬ (cs).toInt = ((0 : Int32)).toInt := fun z => hq361 (Int32.toInt_inj.mp z)
          have i_hq362 : ¬ ((255 : Int32)).toInt < ((nar .char (((c1 &&& (255 : Int32))).toUInt32.toUInt16.toUInt32.toInt32))).toInt := fun z => hq362 (Int32.lt_iff_toInt_lt.mpr z)
          have i_hq375 : ¬ (cs).toInt = ((0 : Int32)).toInt := fun z => hq375 (Int32.toInt_inj.mp z)
          have i_hq376 : ¬ ((255 : Int32)).toInt < ((nar .char (((c2 &&& (255 : Int32))).toUInt32.toUInt16.toUInt32.toInt32))).toInt := fun z => hq376 (Int32.lt_iff_toInt_lt.mpr z)
          have i_hq387 : ¬ (((196 : Int32) + ((a &&& (2147483647 : Int32)) % (13 : Int32)))).toInt < ((200 : Int32)).toInt := fun z => hq387 (Int32.lt_iff_toInt_lt.mpr z)
          have i_hq388 : ((204 : Int32)).toInt < (((196 : Int32) + ((a &&& (2147483647 : Int32)) % (13 : Int32)))).toInt := Int32.lt_iff_toInt_lt.mp hq388
          have i_hc104 : ((((((196 : Int32) + ((a &&& (2147483647 : Int32)) % (13 : Int32)))).toInt64) - (200 : Int64))).toInt < ((0 : Int64)).toInt := Int64.lt_iff_toInt_lt.mp hc104
          have i_hq492 : ¬ (((196 : Int32) + ((a &&& (2147483647 : Int32)) % (13 : Int32)))).toInt = ((200 : Int32)).toInt := fun z => hq492 (Int32.toInt_inj.mp z)
          have i_hq493 : ¬ (((196 : Int32) + ((a &&& (2147483647 : Int32)) % (13 : Int32)))).toInt = ((201 : Int32)).toInt := fun z => hq493 (Int32.toInt_inj.mp z)
          have i_hq494 : ¬ (((196 : Int32) + ((a &&& (2147483647 : Int32)) % (13 : Int32)))).toInt = ((202 : Int32)).toInt := fun z => hq494 (Int32.toInt_inj.mp z)
          have i_hq495 : (((196 : Int32) + ((a &&& (2147483647 : Int32)) % (13 : Int32)))).toInt = ((203 : Int32)).toInt := congrArg Int32.toInt hq495
          have i_hc130 : ¬ ((0 : Int32)).toInt = ((1 : Int32)).toInt := fun z => hc130 (Int32.toInt_inj.mp z)
          have r2 := rng32 sel
          have e1 : ((sel &&& (1 : Int32))).toInt = (sel).toInt % 2 := c_mask sel (1 : Int32) 1 (by decide) (by decide)
          have e3 : (0 : Int32).toInt = 0 := rfl
          have r4 := rng32 cs
          have e5 : (255 : Int32).toInt = 255 := rfl
          have r9 := rng32 c1
          have e8 : ((c1 &&& (255 : Int32))).toInt = (c1).toInt % 256 := c_mask c1 (255 : Int32) 8 (by decide) (by decide)
          have e7 := c_i2c (c1 &&& (255 : Int32))
          have e6 : (((nar .char (((c1 &&& (255 : Int32))).toUInt32.toUInt16.toUInt32.toInt32))).toInt - ((((c1 &&& (255 : Int32))).toUInt32.toUInt16.toUInt32.toInt32)).toInt) % 65536 = 0 ∧ 0 ≤ ((nar .char (((c1 &&& (255 : Int32))).toUInt32.toUInt16.toUInt32.toInt32))).toInt ∧ ((nar .char (((c1 &&& (255 : Int32))).toUInt32.toUInt16.toUInt32.toInt32))).toInt < 65536 := c_i2c (((c1 &&& (255 : Int32))).toUInt32.toUInt16.toUInt32.toInt32)
          have r13 := rng32 c2
          have e12 : ((c2 &&& (255 : Int32))).toInt = (c2).toInt % 256 := c_mask c2 (255 : Int32) 8 (by decide) (by decide)
          have e11 := c_i2c (c2 &&& (255 : Int32))
          have e10 : (((nar .char (((c2 &&& (255 : Int32))).toUInt32.toUInt16.toUInt32.toInt32))).toInt - ((((c2 &&& (255 : Int32))).toUInt32.toUInt16.toUInt32.toInt32)).toInt) % 65536 = 0 ∧ 0 ≤ ((nar .char (((c2 &&& (255 : Int32))).toUInt32.toUInt16.toUInt32.toInt32))).toInt ∧ ((nar .char (((c2 &&& (255 : Int32))).toUInt32.toUInt16.toUInt32.toInt32))).toInt < 65536 := c_i2c (((c2 &&& (255 : Int32))).toUInt32.toUInt16.toUInt32.toInt32)
          have e15 : (196 : Int32).toInt = 196 := rfl
          have r18 := rng32 a
          have e17 : ((a &&& (2147483647 : Int32))).toInt = (a).toInt % 2147483648 := c_mask a (2147483647 : Int32) 31 (by decide) (by decide)
          have e16 : (0 ≤ ((a &&& (2147483647 : Int32))).toInt → (((a &&& (2147483647 : Int32)) % (13 : Int32))).toInt = ((a &&& (2147483647 : Int32))).toInt % 13) ∧ (((a &&& (2147483647 : Int32))).toInt < 0 → (((a &&& (2147483647 : Int32)) % (13 : Int32))).toInt = -((-((a &&& (2147483647 : Int32))).toInt) % 13)) := c_irem (a &&& (2147483647 : Int32)) (13 : Int32) 13 rfl
          have e14 := c_iadd (196 : Int32) ((a &&& (2147483647 : Int32)) % (13 : Int32))
          have r14 := rng32 ((196 : Int32) + ((a &&& (2147483647 : Int32)) % (13 : Int32)))
          have e19 : (200 : Int32).toInt = 200 := rfl
          have e20 : (204 : Int32).toInt = 204 := rfl
          have e22 := c_i2l ((196 : Int32) + ((a &&& (2147483647 : Int32)) % (13 : Int32)))
          have e23 : (200 : Int64).toInt = 200 := rfl
          have e21 := c_lsub ((((196 : Int32) + ((a &&& (2147483647 : Int32)) % (13 : Int32)))).toInt64) (200 : Int64)
          have r21 := rng64 (((((196 : Int32) + ((a &&& (2147483647 : Int32)) % (13 : Int32)))).toInt64) - (200 : Int64))
          have e24 : (0 : Int64).toInt = 0 := rfl
          have e25 : (201 : Int32).toInt = 201 := rfl
          have e26 : (202 : Int32).toInt = 202 := rfl
          have e27 : (203 : Int32).toInt = 203 := rfl
          have e28 : (1 : Int32).toInt = 1 := rfl
          omega
        · refine G.cast (st' := [(.int (0 : Int32)), (.int (0 : Int32))]) ?_ rfl
          refine g_icmp_ne cx d0_130 (fun q => absurd q (fun q => by revert q; decide)) (fun hc130 => ?_)
          refine g_iload cx d0_133 rfl ?_
          refine g_iload cx d0_135 rfl ?_
          refine g_icmp_ne cx d0_137 (fun q => absurd q (fun q => by revert q; decide)) (fun hc137 => ?_)
          refine g_iconst cx d0_140 (v := (1 : Int32)) rfl ?_
          refine g_goto cx d0_141 ?_
          refine g_retZ cx d0_145 rfl rfl (by decide) (by decide) ?_
          rfl
        · refine G.cast (st' := [(.int (1 : Int32)), (.int (0 : Int32))]) ?_ rfl
          refine g_icmp_ne cx d0_130 (fun hc130 => ?_) (fun q => absurd q (fun q => by revert q; decide))
          refine g_iconst cx d0_144 (v := (0 : Int32)) rfl ?_
          refine g_retZ cx d0_145 rfl rfl (by decide) (by decide) ?_
          exfalso
          have i_hc3 : ¬ ((sel &&& (1 : Int32))).toInt = ((0 : Int32)).toInt := fun z => hc3 (Int32.toInt_inj.mp z)
          have i_hq361 : ¬ (cs).toInt = ((0 : Int32)).toInt := fun z => hq361 (Int32.toInt_inj.mp z)
          have i_hq362 : ¬ ((255 : Int32)).toInt < ((nar .char (((c1 &&& (255 : Int32))).toUInt32.toUInt16.toUInt32.toInt32))).toInt := fun z => hq362 (Int32.lt_iff_toInt_lt.mpr z)
          have i_hq375 : ¬ (cs).toInt = ((0 : Int32)).toInt := fun z => hq375 (Int32.toInt_inj.mp z)
          have i_hq376 : ¬ ((255 : Int32)).toInt < ((nar .char (((c2 &&& (255 : Int32))).toUInt32.toUInt16.toUInt32.toInt32))).toInt := fun z => hq376 (Int32.lt_iff_toInt_lt.mpr z)
          have i_hq387 : ¬ (((196 : Int32) + ((a &&& (2147483647 : Int32)) % (13 : Int32)))).toInt < ((200 : Int32)).toInt := fun z => hq387 (Int32.lt_iff_toInt_lt.mpr z)
          have i_hq388 : ((204 : Int32)).toInt < (((196 : Int32) + ((a &&& (2147483647 : Int32)) % (13 : Int32)))).toInt := Int32.lt_iff_toInt_lt.mp hq388
          have i_hc104 : ((((((196 : Int32) + ((a &&& (2147483647 : Int32)) % (13 : Int32)))).toInt64) - (200 : Int64))).toInt < ((0 : Int64)).toInt := Int64.lt_iff_toInt_lt.mp hc104
          have i_hq503 : ¬ (((196 : Int32) + ((a &&& (2147483647 : Int32)) % (13 : Int32)))).toInt = ((200 : Int32)).toInt := fun z => hq503 (Int32.toInt_inj.mp z)
          have i_hq504 : ¬ (((196 : Int32) + ((a &&& (2147483647 : Int32)) % (13 : Int32)))).toInt = ((201 : Int32)).toInt := fun z => hq504 (Int32.toInt_inj.mp z)
          have i_hq505 : ¬ (((196 : Int32) + ((a &&& (2147483647 : Int32)) % (13 : Int32)))).toInt = ((202 : Int32)).toInt := fun z => hq505 (Int32.toInt_inj.mp z)
          have i_hq506 : ¬ (((196 : Int32) + ((a &&& (2147483647 : Int32)) % (13 : Int32)))).toInt = ((203 : Int32)).toInt := fun z => hq506 (Int32.toInt_inj.mp z)
          have i_hq507 : (((196 : Int32) + ((a &&& (2147483647 : Int32)) % (13 : Int32)))).toInt = ((204 : Int32)).toInt := congrArg Int32.toInt hq507
          have i_hc130 : ¬ ((0 : Int32)).toInt = ((1 : Int32)).toInt := fun z => hc130 (Int32.toInt_inj.mp z)
          have r2 := rng32 sel
          have e1 : ((sel &&& (1 : Int32))).toInt = (sel).toInt % 2 := c_mask sel (1 : Int32) 1 (by decide) (by decide)
          have e3 : (0 : Int32).toInt = 0 := rfl
          have r4 := rng32 cs
          have e5 : (255 : Int32).toInt = 255 := rfl
          have r9 := rng32 c1
          have e8 : ((c1 &&& (255 : Int32))).toInt = (c1).toInt % 256 := c_mask c1 (255 : Int32) 8 (by decide) (by decide)
          have e7 := c_i2c (c1 &&& (255 : Int32))
          have e6 : (((nar .char (((c1 &&& (255 : Int32))).toUInt32.toUInt16.toUInt32.toInt32))).toInt - ((((c1 &&& (255 : Int32))).toUInt32.toUInt16.toUInt32.toInt32)).toInt) % 65536 = 0 ∧ 0 ≤ ((nar .char (((c1 &&& (255 : Int32))).toUInt32.toUInt16.toUInt32.toInt32))).toInt ∧ ((nar .char (((c1 &&& (255 : Int32))).toUInt32.toUInt16.toUInt32.toInt32))).toInt < 65536 := c_i2c (((c1 &&& (255 : Int32))).toUInt32.toUInt16.toUInt32.toInt32)
          have r13 := rng32 c2
          have e12 : ((c2 &&& (255 : Int32))).toInt = (c2).toInt % 256 := c_mask c2 (255 : Int32) 8 (by decide) (by decide)
          have e11 := c_i2c (c2 &&& (255 : Int32))
          have e10 : (((nar .char (((c2 &&& (255 : Int32))).toUInt32.toUInt16.toUInt32.toInt32))).toInt - ((((c2 &&& (255 : Int32))).toUInt32.toUInt16.toUInt32.toInt32)).toInt) % 65536 = 0 ∧ 0 ≤ ((nar .char (((c2 &&& (255 : Int32))).toUInt32.toUInt16.toUInt32.toInt32))).toInt ∧ ((nar .char (((c2 &&& (255 : Int32))).toUInt32.toUInt16.toUInt32.toInt32))).toInt < 65536 := c_i2c (((c2 &&& (255 : Int32))).toUInt32.toUInt16.toUInt32.toInt32)
          have e15 : (196 : Int32).toInt = 196 := rfl
          have r18 := rng32 a
          have e17 : ((a &&& (2147483647 : Int32))).toInt = (a).toInt % 2147483648 := c_mask a (2147483647 : Int32) 31 (by decide) (by decide)
          have e16 : (0 ≤ ((a &&& (2147483647 : Int32))).toInt → (((a &&& (2147483647 : Int32)) % (13 : Int32))).toInt = ((a &&& (2147483647 : Int32))).toInt % 13) ∧ (((a &&& (2147483647 : Int32))).toInt < 0 → (((a &&& (2147483647 : Int32)) % (13 : Int32))).toInt = -((-((a &&& (2147483647 : Int32))).toInt) % 13)) := c_irem (a &&& (2147483647 : Int32)) (13 : Int32) 13 rfl
          have e14 := c_iadd (196 : Int32) ((a &&& (2147483647 : Int32)) % (13 : Int32))
          have r14 := rng32 ((196 : Int32) + ((a &&& (2147483647 : Int32)) % (13 : Int32)))
          have e19 : (200 : Int32).toInt = 200 := rfl
          have e20 : (204 : Int32).toInt = 204 := rfl
          have e22 := c_i2l ((196 : Int32) + ((a &&& (2147483647 : Int32)) % (13 : Int32)))
          have e23 : (200 : Int64).toInt = 200 := rfl
          have e21 := c_lsub ((((196 : Int32) + ((a &&& (2147483647 : Int32)) % (13 : Int32)))).toInt64) (200 : Int64)
          have r21 := rng64 (((((196 : Int32) + ((a &&& (2147483647 : Int32)) % (13 : Int32)))).toInt64) - (200 : Int64))
          have e24 : (0 : Int64).toInt = 0 := rfl
          have e25 : (201 : Int32).toInt = 201 := rfl
          have e26 : (202 : Int32).toInt = 202 := rfl
          have e27 : (203 : Int32).toInt = 203 := rfl
          have e28 : (1 : Int32).toInt = 1 := rfl
          omega
      · refine g_lload cx d0_107 rfl ?_
        refine g_ldcJ cx d0_109 (hw _ (List.mem_of_getElem? (i := 59) rfl)) ?_
        refine g_lif_gt cx d0_112 d0_113 (fun hc113 => ?_) (fun hc113 => ?_)
        · refine g_iconst cx d0_120 (v := (0 : Int32)) rfl ?_
          refine g_istore cx d0_121 (Ls' := #[.val (.int a), .val (.int sel), .val (.int c1), .val (.int c2), .val (.int ((196 : Int32) + ((a &&& (2147483647 : Int32)) % (13 : Int32)))), .val (.ref b330), .val (.ref b339), .val (.ref b348), .val (.int (0 : Int32)), .val (.long (((((196 : Int32) + ((a &&& (2147483647 : Int32)) % (13 : Int32)))).toInt64) - (200 : Int64))), .second, .val (.int (0 : Int32))]) rfl ?_
          refine g_iload cx d0_123 rfl ?_
          refine g_iload cx d0_125 rfl ?_
          refine g_static cx (y := (⟨"com/example/egret/egret/service/OutcomeDeliveredPinLaw", "isSuccessStatus", "(I)Z"⟩ : MethodName)) d0_127 (hw _ (List.mem_of_getElem? (i := 55) rfl)) (hw _ (List.mem_of_getElem? (i := 56) rfl)) (hw _ (List.mem_of_getElem? (i := 57) rfl)) (hw _ (List.mem_of_getElem? (i := 58) rfl)) (by decide) (bytes := method_2_code) (maxL' := 1) (M := (ra8 l Z a0 hw ((196 : Int32) + ((a &&& (2147483647 : Int32)) % (13 : Int32))) _  OL cs SCS ncs)) rfl (lenOf pd_8 rfl) (by decide) (W := 1) (Nat.le_of_eq rfl) (by decide) (k' := 7) (n' := 15) rfl rfl (by decide) (by decide) (argsL := [(.int ((196 : Int32) + ((a &&& (2147483647 : Int32)) % (13 : Int32))))]) (rest := [(.int (0 : Int32))]) rfl (fun v539 h538 q540 => ?_)
          rcases q540 with ⟨hq512, rfl, rfl⟩ | ⟨hq514, hq515, rfl, rfl⟩ | ⟨hq517, hq518, hq519, rfl, rfl⟩ | ⟨hq521, hq522, hq523, hq524, rfl, rfl⟩ | ⟨hq526, hq527, hq528, hq529, hq530, rfl, rfl⟩ | ⟨hq532, hq533, hq534, hq535, hq536, rfl, rfl⟩
          · refine G.cast (st' := [(.int (1 : Int32)), (.int (0 : Int32))]) ?_ rfl
            refine g_icmp_ne cx d0_130 (fun hc130 => ?_) (fun q => absurd q (fun q => by revert q; decide))
            refine g_iconst cx d0_144 (v := (0 : Int32)) rfl ?_
            refine g_retZ cx d0_145 rfl rfl (by decide) (by decide) ?_
            exfalso
            have i_hc3 : ¬ ((sel &&& (1 : Int32))).toInt = ((0 : Int32)).toInt := fun z => hc3 (Int32.toInt_inj.mp z)
            have i_hq361 : ¬ (cs).toInt = ((0 : Int32)).toInt := fun z => hq361 (Int32.toInt_inj.mp z)
            have i_hq362 : ¬ ((255 : Int32)).toInt < ((nar .char (((c1 &&& (255 : Int32))).toUInt32.toUInt16.toUInt32.toInt32))).toInt := fun z => hq362 (Int32.lt_iff_toInt_lt.mpr z)
            have i_hq375 : ¬ (cs).toInt = ((0 : Int32)).toInt := fun z => hq375 (Int32.toInt_inj.mp z)
            have i_hq376 : ¬ ((255 : Int32)).toInt < ((nar .char (((c2 &&& (255 : Int32))).toUInt32.toUInt16.toUInt32.toInt32))).toInt := fun z => hq376 (Int32.lt_iff_toInt_lt.mpr z)
            have i_hq387 : ¬ (((196 : Int32) + ((a &&& (2147483647 : Int32)) % (13 : Int32)))).toInt < ((200 : Int32)).toInt := fun z => hq387 (Int32.lt_iff_toInt_lt.mpr z)
            have i_hq388 : ((204 : Int32)).toInt < (((196 : Int32) + ((a &&& (2147483647 : Int32)) % (13 : Int32)))).toInt := Int32.lt_iff_toInt_lt.mp hq388
            have i_hc104 : ¬ ((((((196 : Int32) + ((a &&& (2147483647 : Int32)) % (13 : Int32)))).toInt64) - (200 : Int64))).toInt < ((0 : Int64)).toInt := fun z => hc104 (Int64.lt_iff_toInt_lt.mpr z)
            have i_hc113 : ((4 : Int64)).toInt < ((((((196 : Int32) + ((a &&& (2147483647 : Int32)) % (13 : Int32)))).toInt64) - (200 : Int64))).toInt := Int64.lt_iff_toInt_lt.mp hc113
            have i_hq512 : (((196 : Int32) + ((a &&& (2147483647 : Int32)) % (13 : Int32)))).toInt = ((200 : Int32)).toInt := congrArg Int32.toInt hq512
            have i_hc130 : ¬ ((0 : Int32)).toInt = ((1 : Int32)).toInt := fun z => hc130 (Int32.toInt_inj.mp z)
            have r2 := rng32 sel
            have e1 : ((sel &&& (1 : Int32))).toInt = (sel).toInt % 2 := c_mask sel (1 : Int32) 1 (by decide) (by decide)
            have e3 : (0 : Int32).toInt = 0 := rfl
            have r4 := rng32 cs
            have e5 : (255 : Int32).toInt = 255 := rfl
            have r9 := rng32 c1
            have e8 : ((c1 &&& (255 : Int32))).toInt = (c1).toInt % 256 := c_mask c1 (255 : Int32) 8 (by decide) (by decide)
            have e7 := c_i2c (c1 &&& (255 : Int32))
            have e6 : (((nar .char (((c1 &&& (255 : Int32))).toUInt32.toUInt16.toUInt32.toInt32))).toInt - ((((c1 &&& (255 : Int32))).toUInt32.toUInt16.toUInt32.toInt32)).toInt) % 65536 = 0 ∧ 0 ≤ ((nar .char (((c1 &&& (255 : Int32))).toUInt32.toUInt16.toUInt32.toInt32))).toInt ∧ ((nar .char (((c1 &&& (255 : Int32))).toUInt32.toUInt16.toUInt32.toInt32))).toInt < 65536 := c_i2c (((c1 &&& (255 : Int32))).toUInt32.toUInt16.toUInt32.toInt32)
            have r13 := rng32 c2
            have e12 : ((c2 &&& (255 : Int32))).toInt = (c2).toInt % 256 := c_mask c2 (255 : Int32) 8 (by decide) (by decide)
            have e11 := c_i2c (c2 &&& (255 : Int32))
            have e10 : (((nar .char (((c2 &&& (255 : Int32))).toUInt32.toUInt16.toUInt32.toInt32))).toInt - ((((c2 &&& (255 : Int32))).toUInt32.toUInt16.toUInt32.toInt32)).toInt) % 65536 = 0 ∧ 0 ≤ ((nar .char (((c2 &&& (255 : Int32))).toUInt32.toUInt16.toUInt32.toInt32))).toInt ∧ ((nar .char (((c2 &&& (255 : Int32))).toUInt32.toUInt16.toUInt32.toInt32))).toInt < 65536 := c_i2c (((c2 &&& (255 : Int32))).toUInt32.toUInt16.toUInt32.toInt32)
            have e15 : (196 : Int32).toInt = 196 := rfl
            have r18 := rng32 a
            have e17 : ((a &&& (2147483647 : Int32))).toInt = (a).toInt % 2147483648 := c_mask a (2147483647 : Int32) 31 (by decide) (by decide)
            have e16 : (0 ≤ ((a &&& (2147483647 : Int32))).toInt → (((a &&& (2147483647 : Int32)) % (13 : Int32))).toInt = ((a &&& (2147483647 : Int32))).toInt % 13) ∧ (((a &&& (2147483647 : Int32))).toInt < 0 → (((a &&& (2147483647 : Int32)) % (13 : Int32))).toInt = -((-((a &&& (2147483647 : Int32))).toInt) % 13)) := c_irem (a &&& (2147483647 : Int32)) (13 : Int32) 13 rfl
            have e14 := c_iadd (196 : Int32) ((a &&& (2147483647 : Int32)) % (13 : Int32))
            have r14 := rng32 ((196 : Int32) + ((a &&& (2147483647 : Int32)) % (13 : Int32)))
            have e19 : (200 : Int32).toInt = 200 := rfl
            have e20 : (204 : Int32).toInt = 204 := rfl
            have e22 := c_i2l ((196 : Int32) + ((a &&& (2147483647 : Int32)) % (13 : Int32)))
            have e23 : (200 : Int64).toInt = 200 := rfl
            have e21 := c_lsub ((((196 : Int32) + ((a &&& (2147483647 : Int32)) % (13 : Int32)))).toInt64) (200 : Int64)
            have r21 := rng64 (((((196 : Int32) + ((a &&& (2147483647 : Int32)) % (13 : Int32)))).toInt64) - (200 : Int64))
            have e24 : (0 : Int64).toInt = 0 := rfl
            have e25 : (4 : Int64).toInt = 4 := rfl
            have e26 : (1 : Int32).toInt = 1 := rfl
            omega
          · refine G.cast (st' := [(.int (1 : Int32)), (.int (0 : Int32))]) ?_ rfl
            refine g_icmp_ne cx d0_130 (fun hc130 => ?_) (fun q => absurd q (fun q => by revert q; decide))
            refine g_iconst cx d0_144 (v := (0 : Int32)) rfl ?_
            refine g_retZ cx d0_145 rfl rfl (by decide) (by decide) ?_
            exfalso
            have i_hc3 : ¬ ((sel &&& (1 : Int32))).toInt = ((0 : Int32)).toInt := fun z => hc3 (Int32.toInt_inj.mp z)
            have i_hq361 : ¬ (cs).toInt = ((0 : Int32)).toInt := fun z => hq361 (Int32.toInt_inj.mp z)
            have i_hq362 : ¬ ((255 : Int32)).toInt < ((nar .char (((c1 &&& (255 : Int32))).toUInt32.toUInt16.toUInt32.toInt32))).toInt := fun z => hq362 (Int32.lt_iff_toInt_lt.mpr z)
            have i_hq375 : ¬ (cs).toInt = ((0 : Int32)).toInt := fun z => hq375 (Int32.toInt_inj.mp z)
            have i_hq376 : ¬ ((255 : Int32)).toInt < ((nar .char (((c2 &&& (255 : Int32))).toUInt32.toUInt16.toUInt32.toInt32))).toInt := fun z => hq376 (Int32.lt_iff_toInt_lt.mpr z)
            have i_hq387 : ¬ (((196 : Int32) + ((a &&& (2147483647 : Int32)) % (13 : Int32)))).toInt < ((200 : Int32)).toInt := fun z => hq387 (Int32.lt_iff_toInt_lt.mpr z)
            have i_hq388 : ((204 : Int32)).toInt < (((196 : Int32) + ((a &&& (2147483647 : Int32)) % (13 : Int32)))).toInt := Int32.lt_iff_toInt_lt.mp hq388
            have i_hc104 : ¬ ((((((196 : Int32) + ((a &&& (2147483647 : Int32)) % (13 : Int32)))).toInt64) - (200 : Int64))).toInt < ((0 : Int64)).toInt := fun z => hc104 (Int64.lt_iff_toInt_lt.mpr z)
            have i_hc113 : ((4 : Int64)).toInt < ((((((196 : Int32) + ((a &&& (2147483647 : Int32)) % (13 : Int32)))).toInt64) - (200 : Int64))).toInt := Int64.lt_iff_toInt_lt.mp hc113
            have i_hq514 : ¬ (((196 : Int32) + ((a &&& (2147483647 : Int32)) % (13 : Int32)))).toInt = ((200 : Int32)).toInt := fun z => hq514 (Int32.toInt_inj.mp z)
            have i_hq515 : (((196 : Int32) + ((a &&& (2147483647 : Int32)) % (13 : Int32)))).toInt = ((201 : Int32)).toInt := congrArg Int32.toInt hq515
            have i_hc130 : ¬ ((0 : Int32)).toInt = ((1 : Int32)).toInt := fun z => hc130 (Int32.toInt_inj.mp z)
            have r2 := rng32 sel
            have e1 : ((sel &&& (1 : Int32))).toInt = (sel).toInt % 2 := c_mask sel (1 : Int32) 1 (by decide) (by decide)
            have e3 : (0 : Int32).toInt = 0 := rfl
            have r4 := rng32 cs
            have e5 : (255 : Int32).toInt = 255 := rfl
            have r9 := rng32 c1
            have e8 : ((c1 &&& (255 : Int32))).toInt = (c1).toInt % 256 := c_mask c1 (255 : Int32) 8 (by decide) (by decide)
            have e7 := c_i2c (c1 &&& (255 : Int32))
            have e6 : (((nar .char (((c1 &&& (255 : Int32))).toUInt32.toUInt16.toUInt32.toInt32))).toInt - ((((c1 &&& (255 : Int32))).toUInt32.toUInt16.toUInt32.toInt32)).toInt) % 65536 = 0 ∧ 0 ≤ ((nar .char (((c1 &&& (255 : Int32))).toUInt32.toUInt16.toUInt32.toInt32))).toInt ∧ ((nar .char (((c1 &&& (255 : Int32))).toUInt32.toUInt16.toUInt32.toInt32))).toInt < 65536 := c_i2c (((c1 &&& (255 : Int32))).toUInt32.toUInt16.toUInt32.toInt32)
            have r13 := rng32 c2
            have e12 : ((c2 &&& (255 : Int32))).toInt = (c2).toInt % 256 := c_mask c2 (255 : Int32) 8 (by decide) (by decide)
            have e11 := c_i2c (c2 &&& (255 : Int32))
            have e10 : (((nar .char (((c2 &&& (255 : Int32))).toUInt32.toUInt16.toUInt32.toInt32))).toInt - ((((c2 &&& (255 : Int32))).toUInt32.toUInt16.toUInt32.toInt32)).toInt) % 65536 = 0 ∧ 0 ≤ ((nar .char (((c2 &&& (255 : Int32))).toUInt32.toUInt16.toUInt32.toInt32))).toInt ∧ ((nar .char (((c2 &&& (255 : Int32))).toUInt32.toUInt16.toUInt32.toInt32))).toInt < 65536 := c_i2c (((c2 &&& (255 : Int32))).toUInt32.toUInt16.toUInt32.toInt32)
            have e15 : (196 : Int32).toInt = 196 := rfl
            have r18 := rng32 a
            have e17 : ((a &&& (2147483647 : Int32))).toInt = (a).toInt % 2147483648 := c_mask a (2147483647 : Int32) 31 (by decide) (by decide)
            have e16 : (0 ≤ ((a &&& (2147483647 : Int32))).toInt → (((a &&& (2147483647 : Int32)) % (13 : Int32))).toInt = ((a &&& (2147483647 : Int32))).toInt % 13) ∧ (((a &&& (2147483647 : Int32))).toInt < 0 → (((a &&& (2147483647 : Int32)) % (13 : Int32))).toInt = -((-((a &&& (2147483647 : Int32))).toInt) % 13)) := c_irem (a &&& (2147483647 : Int32)) (13 : Int32) 13 rfl
            have e14 := c_iadd (196 : Int32) ((a &&& (2147483647 : Int32)) % (13 : Int32))
            have r14 := rng32 ((196 : Int32) + ((a &&& (2147483647 : Int32)) % (13 : Int32)))
            have e19 : (200 : Int32).toInt = 200 := rfl
            have e20 : (204 : Int32).toInt = 204 := rfl
            have e22 := c_i2l ((196 : Int32) + ((a &&& (2147483647 : Int32)) % (13 : Int32)))
            have e23 : (200 : Int64).toInt = 200 := rfl
            have e21 := c_lsub ((((196 : Int32) + ((a &&& (2147483647 : Int32)) % (13 : Int32)))).toInt64) (200 : Int64)
            have r21 := rng64 (((((196 : Int32) + ((a &&& (2147483647 : Int32)) % (13 : Int32)))).toInt64) - (200 : Int64))
            have e24 : (0 : Int64).toInt = 0 := rfl
            have e25 : (4 : Int64).toInt = 4 := rfl
            have e26 : (201 : Int32).toInt = 201 := rfl
            have e27 : (1 : Int32).toInt = 1 := rfl
            omega
          · refine G.cast (st' := [(.int (1 : Int32)), (.int (0 : Int32))]) ?_ rfl
            refine g_icmp_ne cx d0_130 (fun hc130 => ?_) (fun q => absurd q (fun q => by revert q; decide))
            refine g_iconst cx d0_144 (v := (0 : Int32)) rfl ?_
            refine g_retZ cx d0_145 rfl rfl (by decide) (by decide) ?_
            exfalso
            have i_hc3 : ¬ ((sel &&& (1 : Int32))).toInt = ((0 : Int32)).toInt := fun z => hc3 (Int32.toInt_inj.mp z)
            have i_hq361 : ¬ (cs).toInt = ((0 : Int32)).toInt := fun z => hq361 (Int32.toInt_inj.mp z)
            have i_hq362 : ¬ ((255 : Int32)).toInt < ((nar .char (((c1 &&& (255 : Int32))).toUInt32.toUInt16.toUInt32.toInt32))).toInt := fun z => hq362 (Int32.lt_iff_toInt_lt.mpr z)
            have i_hq375 : ¬ (cs).toInt = ((0 : Int32)).toInt := fun z => hq375 (Int32.toInt_inj.mp z)
            have i_hq376 : ¬ ((255 : Int32)).toInt < ((nar .char (((c2 &&& (255 : Int32))).toUInt32.toUInt16.toUInt32.toInt32))).toInt := fun z => hq376 (Int32.lt_iff_toInt_lt.mpr z)
            have i_hq387 : ¬ (((196 : Int32) + ((a &&& (2147483647 : Int32)) % (13 : Int32)))).toInt < ((200 : Int32)).toInt := fun z => hq387 (Int32.lt_iff_toInt_lt.mpr z)
            have i_hq388 : ((204 : Int32)).toInt < (((196 : Int32) + ((a &&& (2147483647 : Int32)) % (13 : Int32)))).toInt := Int32.lt_iff_toInt_lt.mp hq388
            have i_hc104 : ¬ ((((((196 : Int32) + ((a &&& (2147483647 : Int32)) % (13 : Int32)))).toInt64) - (200 : Int64))).toInt < ((0 : Int64)).toInt := fun z => hc104 (Int64.lt_iff_toInt_lt.mpr z)
            have i_hc113 : ((4 : Int64)).toInt < ((((((196 : Int32) + ((a &&& (2147483647 : Int32)) % (13 : Int32)))).toInt64) - (200 : Int64))).toInt := Int64.lt_iff_toInt_lt.mp hc113
            have i_hq517 : ¬ (((196 : Int32) + ((a &&& (2147483647 : Int32)) % (13 : Int32)))).toInt = ((200 : Int32)).toInt := fun z => hq517 (Int32.toInt_inj.mp z)
            have i_hq518 : ¬ (((196 : Int32) + ((a &&& (2147483647 : Int32)) % (13 : Int32)))).toInt = ((201 : Int32)).toInt := fun z => hq518 (Int32.toInt_inj.mp z)
            have i_hq519 : (((196 : Int32) + ((a &&& (2147483647 : Int32)) % (13 : Int32)))).toInt = ((202 : Int32)).toInt := congrArg Int32.toInt hq519
            have i_hc130 : ¬ ((0 : Int32)).toInt = ((1 : Int32)).toInt := fun z => hc130 (Int32.toInt_inj.mp z)
            have r2 := rng32 sel
            have e1 : ((sel &&& (1 : Int32))).toInt = (sel).toInt % 2 := c_mask sel (1 : Int32) 1 (by decide) (by decide)
            have e3 : (0 : Int32).toInt = 0 := rfl
            have r4 := rng32 cs
            have e5 : (255 : Int32).toInt = 255 := rfl
            have r9 := rng32 c1
            have e8 : ((c1 &&& (255 : Int32))).toInt = (c1).toInt % 256 := c_mask c1 (255 : Int32) 8 (by decide) (by decide)
            have e7 := c_i2c (c1 &&& (255 : Int32))
            have e6 : (((nar .char (((c1 &&& (255 : Int32))).toUInt32.toUInt16.toUInt32.toInt32))).toInt - ((((c1 &&& (255 : Int32))).toUInt32.toUInt16.toUInt32.toInt32)).toInt) % 65536 = 0 ∧ 0 ≤ ((nar .char (((c1 &&& (255 : Int32))).toUInt32.toUInt16.toUInt32.toInt32))).toInt ∧ ((nar .char (((c1 &&& (255 : Int32))).toUInt32.toUInt16.toUInt32.toInt32))).toInt < 65536 := c_i2c (((c1 &&& (255 : Int32))).toUInt32.toUInt16.toUInt32.toInt32)
            have r13 := rng32 c2
            have e12 : ((c2 &&& (255 : Int32))).toInt = (c2).toInt % 256 := c_mask c2 (255 : Int32) 8 (by decide) (by decide)
            have e11 := c_i2c (c2 &&& (255 : Int32))
            have e10 : (((nar .char (((c2 &&& (255 : Int32))).toUInt32.toUInt16.toUInt32.toInt32))).toInt - ((((c2 &&& (255 : Int32))).toUInt32.toUInt16.toUInt32.toInt32)).toInt) % 65536 = 0 ∧ 0 ≤ ((nar .char (((c2 &&& (255 : Int32))).toUInt32.toUInt16.toUInt32.toInt32))).toInt ∧ ((nar .char (((c2 &&& (255 : Int32))).toUInt32.toUInt16.toUInt32.toInt32))).toInt < 65536 := c_i2c (((c2 &&& (255 : Int32))).toUInt32.toUInt16.toUInt32.toInt32)
            have e15 : (196 : Int32).toInt = 196 := rfl
            have r18 := rng32 a
            have e17 : ((a &&& (2147483647 : Int32))).toInt = (a).toInt % 2147483648 := c_mask a (2147483647 : Int32) 31 (by decide) (by decide)
            have e16 : (0 ≤ ((a &&& (2147483647 : Int32))).toInt → (((a &&& (2147483647 : Int32)) % (13 : Int32))).toInt = ((a &&& (2147483647 : Int32))).toInt % 13) ∧ (((a &&& (2147483647 : Int32))).toInt < 0 → (((a &&& (2147483647 : Int32)) % (13 : Int32))).toInt = -((-((a &&& (2147483647 : Int32))).toInt) % 13)) := c_irem (a &&& (2147483647 : Int32)) (13 : Int32) 13 rfl
            have e14 := c_iadd (196 : Int32) ((a &&& (2147483647 : Int32)) % (13 : Int32))
            have r14 := rng32 ((196 : Int32) + ((a &&& (2147483647 : Int32)) % (13 : Int32)))
            have e19 : (200 : Int32).toInt = 200 := rfl
            have e20 : (204 : Int32).toInt = 204 := rfl
            have e22 := c_i2l ((196 : Int32) + ((a &&& (2147483647 : Int32)) % (13 : Int32)))
            have e23 : (200 : Int64).toInt = 200 := rfl
            have e21 := c_lsub ((((196 : Int32) + ((a &&& (2147483647 : Int32)) % (13 : Int32)))).toInt64) (200 : Int64)
            have r21 := rng64 (((((196 : Int32) + ((a &&& (2147483647 : Int32)) % (13 : Int32)))).toInt64) - (200 : Int64))
            have e24 : (0 : Int64).toInt = 0 := rfl
            have e25 : (4 : Int64).toInt = 4 := rfl
            have e26 : (201 : Int32).toInt = 201 := rfl
            have e27 : (202 : Int32).toInt = 202 := rfl
            have e28 : (1 : Int32).toInt = 1 := rfl
            omega
          · refine G.cast (st' := [(.int (1 : Int32)), (.int (0 : Int32))]) ?_ rfl
            refine g_icmp_ne cx d0_130 (fun hc130 => ?_) (fun q => absurd q (fun q => by revert q; decide))
            refine g_iconst cx d0_144 (v := (0 : Int32)) rfl ?_
            refine g_retZ cx d0_145 rfl rfl (by decide) (by decide) ?_
            exfalso
            have i_hc3 : ¬ ((sel &&& (1 : Int32))).toInt = ((0 : Int32)).toInt := fun z => hc3 (Int32.toInt_inj.mp z)
            have i_hq361 : ¬ (cs).toInt = ((0 : Int32)).toInt := fun z => hq361 (Int32.toInt_inj.mp z)
            have i_hq362 : ¬ ((255 : Int32)).toInt < ((nar .char (((c1 &&& (255 : Int32))).toUInt32.toUInt16.toUInt32.toInt32))).toInt := fun z => hq362 (Int32.lt_iff_toInt_lt.mpr z)
            have i_hq375 : ¬ (cs).toInt = ((0 : Int32)).toInt := fun z => hq375 (Int32.toInt_inj.mp z)
            have i_hq376 : ¬ ((255 : Int32)).toInt < ((nar .char (((c2 &&& (255 : Int32))).toUInt32.toUInt16.toUInt32.toInt32))).toInt := fun z => hq376 (Int32.lt_iff_toInt_lt.mpr z)
            have i_hq387 : ¬ (((196 : Int32) + ((a &&& (2147483647 : Int32)) % (13 : Int32)))).toInt < ((200 : Int32)).toInt := fun z => hq387 (Int32.lt_iff_toInt_lt.mpr z)
            have i_hq388 : ((204 : Int32)).toInt < (((196 : Int32) + ((a &&& (2147483647 : Int32)) % (13 : Int32)))).toInt := Int32.lt_iff_toInt_lt.mp hq388
            have i_hc104 : ¬ ((((((196 : Int32) + ((a &&& (2147483647 : Int32)) % (13 : Int32)))).toInt64) - (200 : Int64))).toInt < ((0 : Int64)).toInt := fun z => hc104 (Int64.lt_iff_toInt_lt.mpr z)
            have i_hc113 : ((4 : Int64)).toInt < ((((((196 : Int32) + ((a &&& (2147483647 : Int32)) % (13 : Int32)))).toInt64) - (200 : Int64))).toInt := Int64.lt_iff_toInt_lt.mp hc113
            have i_hq521 : ¬ (((196 : Int32) + ((a &&& (2147483647 : Int32)) % (13 : Int32)))).toInt = ((200 : Int32)).toInt := fun z => hq521 (Int32.toInt_inj.mp z)
            have i_hq522 : ¬ (((196 : Int32) + ((a &&& (2147483647 : Int32)) % (13 : Int32)))).toInt = ((201 : Int32)).toInt := fun z => hq522 (Int32.toInt_inj.mp z)
            have i_hq523 : ¬ (((196 : Int32) + ((a &&& (2147483647 : Int32)) % (13 : Int32)))).toInt = ((202 : Int32)).toInt := fun z => hq523 (Int32.toInt_inj.mp z)
            have i_hq524 : (((196 : Int32) + ((a &&& (2147483647 : Int32)) % (13 : Int32)))).toInt = ((203 : Int32)).toInt := congrArg Int32.toInt hq524
            have i_hc130 : ¬ ((0 : Int32)).toInt = ((1 : Int32)).toInt := fun z => hc130 (Int32.toInt_inj.mp z)
            have r2 := rng32 sel
            have e1 : ((sel &&& (1 : Int32))).toInt = (sel).toInt % 2 := c_mask sel (1 : Int32) 1 (by decide) (by decide)
            have e3 : (0 : Int32).toInt = 0 := rfl
            have r4 := rng32 cs
            have e5 : (255 : Int32).toInt = 255 := rfl
            have r9 := rng32 c1
            have e8 : ((c1 &&& (255 : Int32))).toInt = (c1).toInt % 256 := c_mask c1 (255 : Int32) 8 (by decide) (by decide)
            have e7 := c_i2c (c1 &&& (255 : Int32))
            have e6 : (((nar .char (((c1 &&& (255 : Int32))).toUInt32.toUInt16.toUInt32.toInt32))).toInt - ((((c1 &&& (255 : Int32))).toUInt32.toUInt16.toUInt32.toInt32)).toInt) % 65536 = 0 ∧ 0 ≤ ((nar .char (((c1 &&& (255 : Int32))).toUInt32.toUInt16.toUInt32.toInt32))).toInt ∧ ((nar .char (((c1 &&& (255 : Int32))).toUInt32.toUInt16.toUInt32.toInt32))).toInt < 65536 := c_i2c (((c1 &&& (255 : Int32))).toUInt32.toUInt16.toUInt32.toInt32)
            have r13 := rng32 c2
            have e12 : ((c2 &&& (255 : Int32))).toInt = (c2).toInt % 256 := c_mask c2 (255 : Int32) 8 (by decide) (by decide)
            have e11 := c_i2c (c2 &&& (255 : Int32))
            have e10 : (((nar .char (((c2 &&& (255 : Int32))).toUInt32.toUInt16.toUInt32.toInt32))).toInt - ((((c2 &&& (255 : Int32))).toUInt32.toUInt16.toUInt32.toInt32)).toInt) % 65536 = 0 ∧ 0 ≤ ((nar .char (((c2 &&& (255 : Int32))).toUInt32.toUInt16.toUInt32.toInt32))).toInt ∧ ((nar .char (((c2 &&& (255 : Int32))).toUInt32.toUInt16.toUInt32.toInt32))).toInt < 65536 := c_i2c (((c2 &&& (255 : Int32))).toUInt32.toUInt16.toUInt32.toInt32)
            have e15 : (196 : Int32).toInt = 196 := rfl
            have r18 := rng32 a
            have e17 : ((a &&& (2147483647 : Int32))).toInt = (a).toInt % 2147483648 := c_mask a (2147483647 : Int32) 31 (by decide) (by decide)
            have e16 : (0 ≤ ((a &&& (2147483647 : Int32))).toInt → (((a &&& (2147483647 : Int32)) % (13 : Int32))).toInt = ((a &&& (2147483647 : Int32))).toInt % 13) ∧ (((a &&& (2147483647 : Int32))).toInt < 0 → (((a &&& (2147483647 : Int32)) % (13 : Int32))).toInt = -((-((a &&& (2147483647 : Int32))).toInt) % 13)) := c_irem (a &&& (2147483647 : Int32)) (13 : Int32) 13 rfl
            have e14 := c_iadd (196 : Int32) ((a &&& (2147483647 : Int32)) % (13 : Int32))
            have r14 := rng32 ((196 : Int32) + ((a &&& (2147483647 : Int32)) % (13 : Int32)))
            have e19 : (200 : Int32).toInt = 200 := rfl
            have e20 : (204 : Int32).toInt = 204 := rfl
            have e22 := c_i2l ((196 : Int32) + ((a &&& (2147483647 : Int32)) % (13 : Int32)))
            have e23 : (200 : Int64).toInt = 200 := rfl
            have e21 := c_lsub ((((196 : Int32) + ((a &&& (2147483647 : Int32)) % (13 : Int32)))).toInt64) (200 : Int64)
            have r21 := rng64 (((((196 : Int32) + ((a &&& (2147483647 : Int32)) % (13 : Int32)))).toInt64) - (200 : Int64))
            have e24 : (0 : Int64).toInt = 0 := rfl
            have e25 : (4 : Int64).toInt = 4 := rfl
            have e26 : (201 : Int32).toInt = 201 := rfl
            have e27 : (202 : Int32).toInt = 202 := rfl
            have e28 : (203 : Int32).toInt = 203 := rfl
            have e29 : (1 : Int32).toInt = 1 := rfl
            omega
          · refine G.cast (st' := [(.int (0 : Int32)), (.int (0 : Int32))]) ?_ rfl
            refine g_icmp_ne cx d0_130 (fun q => absurd q (fun q => by revert q; decide)) (fun hc130 => ?_)
            refine g_iload cx d0_133 rfl ?_
            refine g_iload cx d0_135 rfl ?_
            refine g_icmp_ne cx d0_137 (fun q => absurd q (fun q => by revert q; decide)) (fun hc137 => ?_)
            refine g_iconst cx d0_140 (v := (1 : Int32)) rfl ?_
            refine g_goto cx d0_141 ?_
            refine g_retZ cx d0_145 rfl rfl (by decide) (by decide) ?_
            rfl
          · refine G.cast (st' := [(.int (1 : Int32)), (.int (0 : Int32))]) ?_ rfl
            refine g_icmp_ne cx d0_130 (fun hc130 => ?_) (fun q => absurd q (fun q => by revert q; decide))
            refine g_iconst cx d0_144 (v := (0 : Int32)) rfl ?_
            refine g_retZ cx d0_145 rfl rfl (by decide) (by decide) ?_
            exfalso
            have i_hc3 : ¬ ((sel &&& (1 : Int32))).toInt = ((0 : Int32)).toInt := fun z => hc3 (Int32.toInt_inj.mp z)
            have i_hq361 : ¬ (cs).toInt = ((0 : Int32)).toInt := fun z => hq361 (Int32.toInt_inj.mp z)
            have i_hq362 : ¬ ((255 : Int32)).toInt < ((nar .char (((c1 &&& (255 : Int32))).toUInt32.toUInt16.toUInt32.toInt32))).toInt := fun z => hq362 (Int32.lt_iff_toInt_lt.mpr z)
            have i_hq375 : ¬ (cs).toInt = ((0 : Int32)).toInt := fun z => hq375 (Int32.toInt_inj.mp z)
            have i_hq376 : ¬ ((255 : Int32)).toInt < ((nar .char (((c2 &&& (255 : Int32))).toUInt32.toUInt16.toUInt32.toInt32))).toInt := fun z => hq376 (Int32.lt_iff_toInt_lt.mpr z)
            have i_hq387 : ¬ (((196 : Int32) + ((a &&& (2147483647 : Int32)) % (13 : Int32)))).toInt < ((200 : Int32)).toInt := fun z => hq387 (Int32.lt_iff_toInt_lt.mpr z)
            have i_hq388 : ((204 : Int32)).toInt < (((196 : Int32) + ((a &&& (2147483647 : Int32)) % (13 : Int32)))).toInt := Int32.lt_iff_toInt_lt.mp hq388
            have i_hc104 : ¬ ((((((196 : Int32) + ((a &&& (2147483647 : Int32)) % (13 : Int32)))).toInt64) - (200 : Int64))).toInt < ((0 : Int64)).toInt := fun z => hc104 (Int64.lt_iff_toInt_lt.mpr z)
            have i_hc113 : ((4 : Int64)).toInt < ((((((196 : Int32) + ((a &&& (2147483647 : Int32)) % (13 : Int32)))).toInt64) - (200 : Int64))).toInt := Int64.lt_iff_toInt_lt.mp hc113
            have i_hq532 : ¬ (((196 : Int32) + ((a &&& (2147483647 : Int32)) % (13 : Int32)))).toInt = ((200 : Int32)).toInt := fun z => hq532 (Int32.toInt_inj.mp z)
            have i_hq533 : ¬ (((196 : Int32) + ((a &&& (2147483647 : Int32)) % (13 : Int32)))).toInt = ((201 : Int32)).toInt := fun z => hq533 (Int32.toInt_inj.mp z)
            have i_hq534 : ¬ (((196 : Int32) + ((a &&& (2147483647 : Int32)) % (13 : Int32)))).toInt = ((202 : Int32)).toInt := fun z => hq534 (Int32.toInt_inj.mp z)
            have i_hq535 : ¬ (((196 : Int32) + ((a &&& (2147483647 : Int32)) % (13 : Int32)))).toInt = ((203 : Int32)).toInt := fun z => hq535 (Int32.toInt_inj.mp z)
            have i_hq536 : (((196 : Int32) + ((a &&& (2147483647 : Int32)) % (13 : Int32)))).toInt = ((204 : Int32)).toInt := congrArg Int32.toInt hq536
            have i_hc130 : ¬ ((0 : Int32)).toInt = ((1 : Int32)).toInt := fun z => hc130 (Int32.toInt_inj.mp z)
            have r2 := rng32 sel
            have e1 : ((sel &&& (1 : Int32))).toInt = (sel).toInt % 2 := c_mask sel (1 : Int32) 1 (by decide) (by decide)
            have e3 : (0 : Int32).toInt = 0 := rfl
            have r4 := rng32 cs
            have e5 : (255 : Int32).toInt = 255 := rfl
            have r9 := rng32 c1
            have e8 : ((c1 &&& (255 : Int32))).toInt = (c1).toInt % 256 := c_mask c1 (255 : Int32) 8 (by decide) (by decide)
            have e7 := c_i2c (c1 &&& (255 : Int32))
            have e6 : (((nar .char (((c1 &&& (255 : Int32))).toUInt32.toUInt16.toUInt32.toInt32))).toInt - ((((c1 &&& (255 : Int32))).toUInt32.toUInt16.toUInt32.toInt32)).toInt) % 65536 = 0 ∧ 0 ≤ ((nar .char (((c1 &&& (255 : Int32))).toUInt32.toUInt16.toUInt32.toInt32))).toInt ∧ ((nar .char (((c1 &&& (255 : Int32))).toUInt32.toUInt16.toUInt32.toInt32))).toInt < 65536 := c_i2c (((c1 &&& (255 : Int32))).toUInt32.toUInt16.toUInt32.toInt32)
            have r13 := rng32 c2
            have e12 : ((c2 &&& (255 : Int32))).toInt = (c2).toInt % 256 := c_mask c2 (255 : Int32) 8 (by decide) (by decide)
            have e11 := c_i2c (c2 &&& (255 : Int32))
            have e10 : (((nar .char (((c2 &&& (255 : Int32))).toUInt32.toUInt16.toUInt32.toInt32))).toInt - ((((c2 &&& (255 : Int32))).toUInt32.toUInt16.toUInt32.toInt32)).toInt) % 65536 = 0 ∧ 0 ≤ ((nar .char (((c2 &&& (255 : Int32))).toUInt32.toUInt16.toUInt32.toInt32))).toInt ∧ ((nar .char (((c2 &&& (255 : Int32))).toUInt32.toUInt16.toUInt32.toInt32))).toInt < 65536 := c_i2c (((c2 &&& (255 : Int32))).toUInt32.toUInt16.toUInt32.toInt32)
            have e15 : (196 : Int32).toInt = 196 := rfl
            have r18 := rng32 a
            have e17 : ((a &&& (2147483647 : Int32))).toInt = (a).toInt % 2147483648 := c_mask a (2147483647 : Int32) 31 (by decide) (by decide)
            have e16 : (0 ≤ ((a &&& (2147483647 : Int32))).toInt → (((a &&& (2147483647 : Int32)) % (13 : Int32))).toInt = ((a &&& (2147483647 : Int32))).toInt % 13) ∧ (((a &&& (2147483647 : Int32))).toInt < 0 → (((a &&& (2147483647 : Int32)) % (13 : Int32))).toInt = -((-((a &&& (2147483647 : Int32))).toInt) % 13)) := c_irem (a &&& (2147483647 : Int32)) (13 : Int32) 13 rfl
            have e14 := c_iadd (196 : Int32) ((a &&& (2147483647 : Int32)) % (13 : Int32))
            have r14 := rng32 ((196 : Int32) + ((a &&& (2147483647 : Int32)) % (13 : Int32)))
            have e19 : (200 : Int32).toInt = 200 := rfl
            have e20 : (204 : Int32).toInt = 204 := rfl
            have e22 := c_i2l ((196 : Int32) + ((a &&& (2147483647 : Int32)) % (13 : Int32)))
            have e23 : (200 : Int64).toInt = 200 := rfl
            have e21 := c_lsub ((((196 : Int32) + ((a &&& (2147483647 : Int32)) % (13 : Int32)))).toInt64) (200 : Int64)
            have r21 := rng64 (((((196 : Int32) + ((a &&& (2147483647 : Int32)) % (13 : Int32)))).toInt64) - (200 : Int64))
            have e24 : (0 : Int64).toInt = 0 := rfl
            have e25 : (4 : Int64).toInt = 4 := rfl
            have e26 : (201 : Int32).toInt = 201 := rfl
            have e27 : (202 : Int32).toInt = 202 := rfl
            have e28 : (203 : Int32).toInt = 203 := rfl
            have e29 : (1 : Int32).toInt = 1 := rfl
            omega
        · refine g_iconst cx d0_116 (v := (1 : Int32)) rfl ?_
          refine g_goto cx d0_117 ?_
          refine g_istore cx d0_121 (Ls' := #[.val (.int a), .val (.int sel), .val (.int c1), .val (.int c2), .val (.int ((196 : Int32) + ((a &&& (2147483647 : Int32)) % (13 : Int32)))), .val (.ref b330), .val (.ref b339), .val (.ref b348), .val (.int (0 : Int32)), .val (.long (((((196 : Int32) + ((a &&& (2147483647 : Int32)) % (13 : Int32)))).toInt64) - (200 : Int64))), .second, .val (.int (1 : Int32))]) rfl ?_
          refine g_iload cx d0_123 rfl ?_
          refine g_iload cx d0_125 rfl ?_
          refine g_static cx (y := (⟨"com/example/egret/egret/service/OutcomeDeliveredPinLaw", "isSuccessStatus", "(I)Z"⟩ : MethodName)) d0_127 (hw _ (List.mem_of_getElem? (i := 55) rfl)) (hw _ (List.mem_of_getElem? (i := 56) rfl)) (hw _ (List.mem_of_getElem? (i := 57) rfl)) (hw _ (List.mem_of_getElem? (i := 58) rfl)) (by decide) (bytes := method_2_code) (maxL' := 1) (M := (ra8 l Z a0 hw ((196 : Int32) + ((a &&& (2147483647 : Int32)) % (13 : Int32))) _  OL cs SCS ncs)) rfl (lenOf pd_8 rfl) (by decide) (W := 1) (Nat.le_of_eq rfl) (by decide) (k' := 7) (n' := 15) rfl rfl (by decide) (by decide) (argsL := [(.int ((196 : Int32) + ((a &&& (2147483647 : Int32)) % (13 : Int32))))]) (rest := [(.int (0 : Int32))]) rfl (fun v568 h567 q569 => ?_)
          rcases q569 with ⟨hq541, rfl, rfl⟩ | ⟨hq543, hq544, rfl, rfl⟩ | ⟨hq546, hq547, hq548, rfl, rfl⟩ | ⟨hq550, hq551, hq552, hq553, rfl, rfl⟩ | ⟨hq555, hq556, hq557, hq558, hq559, rfl, rfl⟩ | ⟨hq561, hq562, hq563, hq564, hq565, rfl, rfl⟩
          · refine G.cast (st' := [(.int (1 : Int32)), (.int (0 : Int32))]) ?_ rfl
            refine g_icmp_ne cx d0_130 (fun hc130 => ?_) (fun q => absurd q (fun q => by revert q; decide))
            refine g_iconst cx d0_144 (v := (0 : Int32)) rfl ?_
            refine g_retZ cx d0_145 rfl rfl (by decide) (by decide) ?_
            exfalso
            have i_hc3 : ¬ ((sel &&& (1 : Int32))).toInt = ((0 : Int32)).toInt := fun z => hc3 (Int32.toInt_inj.mp z)
            have i_hq361 : ¬ (cs).toInt = ((0 : Int32)).toInt := fun z => hq361 (Int32.toInt_inj.mp z)
            have i_hq362 : ¬ ((255 : Int32)).toInt < ((nar .char (((c1 &&& (255 : Int32))).toUInt32.toUInt16.toUInt32.toInt32))).toInt := fun z => hq362 (Int32.lt_iff_toInt_lt.mpr z)
            have i_hq375 : ¬ (cs).toInt = ((0 : Int32)).toInt := fun z => hq375 (Int32.toInt_inj.mp z)
            have i_hq376 : ¬ ((255 : Int32)).toInt < ((nar .char (((c2 &&& (255 : Int32))).toUInt32.toUInt16.toUInt32.toInt32))).toInt := fun z => hq376 (Int32.lt_iff_toInt_lt.mpr z)
            have i_hq387 : ¬ (((196 : Int32) + ((a &&& (2147483647 : Int32)) % (13 : Int32)))).toInt < ((200 : Int32)).toInt := fun z => hq387 (Int32.lt_iff_toInt_lt.mpr z)
            have i_hq388 : ((204 : Int32)).toInt < (((196 : Int32) + ((a &&& (2147483647 : Int32)) % (13 : Int32)))).toInt := Int32.lt_iff_toInt_lt.mp hq388
            have i_hc104 : ¬ ((((((196 : Int32) + ((a &&& (2147483647 : Int32)) % (13 : Int32)))).toInt64) - (200 : Int64))).toInt < ((0 : Int64)).toInt := fun z => hc104 (Int64.lt_iff_toInt_lt.mpr z)
            have i_hc113 : ¬ ((4 : Int64)).toInt < ((((((196 : Int32) + ((a &&& (2147483647 : Int32)) % (13 : Int32)))).toInt64) - (200 : Int64))).toInt := fun z => hc113 (Int64.lt_iff_toInt_lt.mpr z)
            have i_hq541 : (((196 : Int32) + ((a &&& (2147483647 : Int32)) % (13 : Int32)))).toInt = ((200 : Int32)).toInt := congrArg Int32.toInt hq541
            have i_hc130 : ¬ ((0 : Int32)).toInt = ((1 : Int32)).toInt := fun z => hc130 (Int32.toInt_inj.mp z)
            have r2 := rng32 sel
            have e1 : ((sel &&& (1 : Int32))).toInt = (sel).toInt % 2 := c_mask sel (1 : Int32) 1 (by decide) (by decide)
            have e3 : (0 : Int32).toInt = 0 := rfl
            have r4 := rng32 cs
            have e5 : (255 : Int32).toInt = 255 := rfl
            have r9 := rng32 c1
            have e8 : ((c1 &&& (255 : Int32))).toInt = (c1).toInt % 256 := c_mask c1 (255 : Int32) 8 (by decide) (by decide)
            have e7 := c_i2c (c1 &&& (255 : Int32))
            have e6 : (((nar .char (((c1 &&& (255 : Int32))).toUInt32.toUInt16.toUInt32.toInt32))).toInt - ((((c1 &&& (255 : Int32))).toUInt32.toUInt16.toUInt32.toInt32)).toInt) % 65536 = 0 ∧ 0 ≤ ((nar .char (((c1 &&& (255 : Int32))).toUInt32.toUInt16.toUInt32.toInt32))).toInt ∧ ((nar .char (((c1 &&& (255 : Int32))).toUInt32.toUInt16.toUInt32.toInt32))).toInt < 65536 := c_i2c (((c1 &&& (255 : Int32))).toUInt32.toUInt16.toUInt32.toInt32)
            have r13 := rng32 c2
            have e12 : ((c2 &&& (255 : Int32))).toInt = (c2).toInt % 256 := c_mask c2 (255 : Int32) 8 (by decide) (by decide)
            have e11 := c_i2c (c2 &&& (255 : Int32))
            have e10 : (((nar .char (((c2 &&& (255 : Int32))).toUInt32.toUInt16.toUInt32.toInt32))).toInt - ((((c2 &&& (255 : Int32))).toUInt32.toUInt16.toUInt32.toInt32)).toInt) % 65536 = 0 ∧ 0 ≤ ((nar .char (((c2 &&& (255 : Int32))).toUInt32.toUInt16.toUInt32.toInt32))).toInt ∧ ((nar .char (((c2 &&& (255 : Int32))).toUInt32.toUInt16.toUInt32.toInt32))).toInt < 65536 := c_i2c (((c2 &&& (255 : Int32))).toUInt32.toUInt16.toUInt32.toInt32)
            have e15 : (196 : Int32).toInt = 196 := rfl
            have r18 := rng32 a
            have e17 : ((a &&& (2147483647 : Int32))).toInt = (a).toInt % 2147483648 := c_mask a (2147483647 : Int32) 31 (by decide) (by decide)
            have e16 : (0 ≤ ((a &&& (2147483647 : Int32))).toInt → (((a &&& (2147483647 : Int32)) % (13 : Int32))).toInt = ((a &&& (2147483647 : Int32))).toInt % 13) ∧ (((a &&& (2147483647 : Int32))).toInt < 0 → (((a &&& (2147483647 : Int32)) % (13 : Int32))).toInt = -((-((a &&& (2147483647 : Int32))).toInt) % 13)) := c_irem (a &&& (2147483647 : Int32)) (13 : Int32) 13 rfl
            have e14 := c_iadd (196 : Int32) ((a &&& (2147483647 : Int32)) % (13 : Int32))
            have r14 := rng32 ((196 : Int32) + ((a &&& (2147483647 : Int32)) % (13 : Int32)))
            have e19 : (200 : Int32).toInt = 200 := rfl
            have e20 : (204 : Int32).toInt = 204 := rfl
            have e22 := c_i2l ((196 : Int32) + ((a &&& (2147483647 : Int32)) % (13 : Int32)))
            have e23 : (200 : Int64).toInt = 200 := rfl
            have e21 := c_lsub ((((196 : Int32) + ((a &&& (2147483647 : Int32)) % (13 : Int32)))).toInt64) (200 : Int64)
            have r21 := rng64 (((((196 : Int32) + ((a &&& (2147483647 : Int32)) % (13 : Int32)))).toInt64) - (200 : Int64))
            have e24 : (0 : Int64).toInt = 0 := rfl
            have e25 : (4 : Int64).toInt = 4 := rfl
            have e26 : (1 : Int32).toInt = 1 := rfl
            omega
          · refine G.cast (st' := [(.int (1 : Int32)), (.int (0 : Int32))]) ?_ rfl
            refine g_icmp_ne cx d0_130 (fun hc130 => ?_) (fun q => absurd q (fun q => by revert q; decide))
            refine g_iconst cx d0_144 (v := (0 : Int32)) rfl ?_
            refine g_retZ cx d0_145 rfl rfl (by decide) (by decide) ?_
            exfalso
            have i_hc3 : ¬ ((sel &&& (1 : Int32))).toInt = ((0 : Int32)).toInt := fun z => hc3 (Int32.toInt_inj.mp z)
            have i_hq361 : ¬ (cs).toInt = ((0 : Int32)).toInt := fun z => hq361 (Int32.toInt_inj.mp z)
            have i_hq362 : ¬ ((255 : Int32)).toInt < ((nar .char (((c1 &&& (255 : Int32))).toUInt32.toUInt16.toUInt32.toInt32))).toInt := fun z => hq362 (Int32.lt_iff_toInt_lt.mpr z)
            have i_hq375 : ¬ (cs).toInt = ((0 : Int32)).toInt := fun z => hq375 (Int32.toInt_inj.mp z)
            have i_hq376 : ¬ ((255 : Int32)).toInt < ((nar .char (((c2 &&& (255 : Int32))).toUInt32.toUInt16.toUInt32.toInt32))).toInt := fun z => hq376 (Int32.lt_iff_toInt_lt.mpr z)
            have i_hq387 : ¬ (((196 : Int32) + ((a &&& (2147483647 : Int32)) % (13 : Int32)))).toInt < ((200 : Int32)).toInt := fun z => hq387 (Int32.lt_iff_toInt_lt.mpr z)
            have i_hq388 : ((204 : Int32)).toInt < (((196 : Int32) + ((a &&& (2147483647 : Int32)) % (13 : Int32)))).toInt := Int32.lt_iff_toInt_lt.mp hq388
            have i_hc104 : ¬ ((((((196 : Int32) + ((a &&& (2147483647 : Int32)) % (13 : Int32)))).toInt64) - (200 : Int64))).toInt < ((0 : Int64)).toInt := fun z => hc104 (Int64.lt_iff_toInt_lt.mpr z)
            have i_hc113 : ¬ ((4 : Int64)).toInt < ((((((196 : Int32) + ((a &&& (2147483647 : Int32)) % (13 : Int32)))).toInt64) - (200 : Int64))).toInt := fun z => hc113 (Int64.lt_iff_toInt_lt.mpr z)
            have i_hq543 : ¬ (((196 : Int32) + ((a &&& (2147483647 : Int32)) % (13 : Int32)))).toInt = ((200 : Int32)).toInt := fun z => hq543 (Int32.toInt_inj.mp z)
            have i_hq544 : (((196 : Int32) + ((a &&& (2147483647 : Int32)) % (13 : Int32)))).toInt = ((201 : Int32)).toInt := congrArg Int32.toInt hq544
            have i_hc130 : ¬ ((0 : Int32)).toInt = ((1 : Int32)).toInt := fun z => hc130 (Int32.toInt_inj.mp z)
            have r2 := rng32 sel
            have e1 : ((sel &&& (1 : Int32))).toInt = (sel).toInt % 2 := c_mask sel (1 : Int32) 1 (by decide) (by decide)
            have e3 : (0 : Int32).toInt = 0 := rfl
            have r4 := rng32 cs
            have e5 : (255 : Int32).toInt = 255 := rfl
            have r9 := rng32 c1
            have e8 : ((c1 &&& (255 : Int32))).toInt = (c1).toInt % 256 := c_mask c1 (255 : Int32) 8 (by decide) (by decide)
            have e7 := c_i2c (c1 &&& (255 : Int32))
            have e6 : (((nar .char (((c1 &&& (255 : Int32))).toUInt32.toUInt16.toUInt32.toInt32))).toInt - ((((c1 &&& (255 : Int32))).toUInt32.toUInt16.toUInt32.toInt32)).toInt) % 65536 = 0 ∧ 0 ≤ ((nar .char (((c1 &&& (255 : Int32))).toUInt32.toUInt16.toUInt32.toInt32))).toInt ∧ ((nar .char (((c1 &&& (255 : Int32))).toUInt32.toUInt16.toUInt32.toInt32))).toInt < 65536 := c_i2c (((c1 &&& (255 : Int32))).toUInt32.toUInt16.toUInt32.toInt32)
            have r13 := rng32 c2
            have e12 : ((c2 &&& (255 : Int32))).toInt = (c2).toInt % 256 := c_mask c2 (255 : Int32) 8 (by decide) (by decide)
            have e11 := c_i2c (c2 &&& (255 : Int32))
            have e10 : (((nar .char (((c2 &&& (255 : Int32))).toUInt32.toUInt16.toUInt32.toInt32))).toInt - ((((c2 &&& (255 : Int32))).toUInt32.toUInt16.toUInt32.toInt32)).toInt) % 65536 = 0 ∧ 0 ≤ ((nar .char (((c2 &&& (255 : Int32))).toUInt32.toUInt16.toUInt32.toInt32))).toInt ∧ ((nar .char (((c2 &&& (255 : Int32))).toUInt32.toUInt16.toUInt32.toInt32))).toInt < 65536 := c_i2c (((c2 &&& (255 : Int32))).toUInt32.toUInt16.toUInt32.toInt32)
            have e15 : (196 : Int32).toInt = 196 := rfl
            have r18 := rng32 a
            have e17 : ((a &&& (2147483647 : Int32))).toInt = (a).toInt % 2147483648 := c_mask a (2147483647 : Int32) 31 (by decide) (by decide)
            have e16 : (0 ≤ ((a &&& (2147483647 : Int32))).toInt → (((a &&& (2147483647 : Int32)) % (13 : Int32))).toInt = ((a &&& (2147483647 : Int32))).toInt % 13) ∧ (((a &&& (2147483647 : Int32))).toInt < 0 → (((a &&& (2147483647 : Int32)) % (13 : Int32))).toInt = -((-((a &&& (2147483647 : Int32))).toInt) % 13)) := c_irem (a &&& (2147483647 : Int32)) (13 : Int32) 13 rfl
            have e14 := c_iadd (196 : Int32) ((a &&& (2147483647 : Int32)) % (13 : Int32))
            have r14 := rng32 ((196 : Int32) + ((a &&& (2147483647 : Int32)) % (13 : Int32)))
            have e19 : (200 : Int32).toInt = 200 := rfl
            have e20 : (204 : Int32).toInt = 204 := rfl
            have e22 := c_i2l ((196 : Int32) + ((a &&& (2147483647 : Int32)) % (13 : Int32)))
            have e23 : (200 : Int64).toInt = 200 := rfl
            have e21 := c_lsub ((((196 : Int32) + ((a &&& (2147483647 : Int32)) % (13 : Int32)))).toInt64) (200 : Int64)
            have r21 := rng64 (((((196 : Int32) + ((a &&& (2147483647 : Int32)) % (13 : Int32)))).toInt64) - (200 : Int64))
            have e24 : (0 : Int64).toInt = 0 := rfl
            have e25 : (4 : Int64).toInt = 4 := rfl
            have e26 : (201 : Int32).toInt = 201 := rfl
            have e27 : (1 : Int32).toInt = 1 := rfl
            omega
          · refine G.cast (st' := [(.int (1 : Int32)), (.int (0 : Int32))]) ?_ rfl
            refine g_icmp_ne cx d0_130 (fun hc130 => ?_) (fun q => absurd q (fun q => by revert q; decide))
            refine g_iconst cx d0_144 (v := (0 : Int32)) rfl ?_
            refine g_retZ cx d0_145 rfl rfl (by decide) (by decide) ?_
            exfalso
            have i_hc3 : ¬ ((sel &&& (1 : Int32))).toInt = ((0 : Int32)).toInt := fun z => hc3 (Int32.toInt_inj.mp z)
            have i_hq361 : ¬ (cs).toInt = ((0 : Int32)).toInt := fun z => hq361 (Int32.toInt_inj.mp z)
            have i_hq362 : ¬ ((255 : Int32)).toInt < ((nar .char (((c1 &&& (255 : Int32))).toUInt32.toUInt16.toUInt32.toInt32))).toInt := fun z => hq362 (Int32.lt_iff_toInt_lt.mpr z)
            have i_hq375 : ¬ (cs).toInt = ((0 : Int32)).toInt := fun z => hq375 (Int32.toInt_inj.mp z)
            have i_hq376 : ¬ ((255 : Int32)).toInt < ((nar .char (((c2 &&& (255 : Int32))).toUInt32.toUInt16.toUInt32.toInt32))).toInt := fun z => hq376 (Int32.lt_iff_toInt_lt.mpr z)
            have i_hq387 : ¬ (((196 : Int32) + ((a &&& (2147483647 : Int32)) % (13 : Int32)))).toInt < ((200 : Int32)).toInt := fun z => hq387 (Int32.lt_iff_toInt_lt.mpr z)
            have i_hq388 : ((204 : Int32)).toInt < (((196 : Int32) + ((a &&& (2147483647 : Int32)) % (13 : Int32)))).toInt := Int32.lt_iff_toInt_lt.mp hq388
            have i_hc104 : ¬ ((((((196 : Int32) + ((a &&& (2147483647 : Int32)) % (13 : Int32)))).toInt64) - (200 : Int64))).toInt < ((0 : Int64)).toInt := fun z => hc104 (Int64.lt_iff_toInt_lt.mpr z)
            have i_hc113 : ¬ ((4 : Int64)).toInt < ((((((196 : Int32) + ((a &&& (2147483647 : Int32)) % (13 : Int32)))).toInt64) - (200 : Int64))).toInt := fun z => hc113 (Int64.lt_iff_toInt_lt.mpr z)
            have i_hq546 : ¬ (((196 : Int32) + ((a &&& (2147483647 : Int32)) % (13 : Int32)))).toInt = ((200 : Int32)).toInt := fun z => hq546 (Int32.toInt_inj.mp z)
            have i_hq547 : ¬ (((196 : Int32) + ((a &&& (2147483647 : Int32)) % (13 : Int32)))).toInt = ((201 : Int32)).toInt := fun z => hq547 (Int32.toInt_inj.mp z)
            have i_hq548 : (((196 : Int32) + ((a &&& (2147483647 : Int32)) % (13 : Int32)))).toInt = ((202 : Int32)).toInt := congrArg Int32.toInt hq548
            have i_hc130 : ¬ ((0 : Int32)).toInt = ((1 : Int32)).toInt := fun z => hc130 (Int32.toInt_inj.mp z)
            have r2 := rng32 sel
            have e1 : ((sel &&& (1 : Int32))).toInt = (sel).toInt % 2 := c_mask sel (1 : Int32) 1 (by decide) (by decide)
            have e3 : (0 : Int32).toInt = 0 := rfl
            have r4 := rng32 cs
            have e5 : (255 : Int32).toInt = 255 := rfl
            have r9 := rng32 c1
            have e8 : ((c1 &&& (255 : Int32))).toInt = (c1).toInt % 256 := c_mask c1 (255 : Int32) 8 (by decide) (by decide)
            have e7 := c_i2c (c1 &&& (255 : Int32))
            have e6 : (((nar .char (((c1 &&& (255 : Int32))).toUInt32.toUInt16.toUInt32.toInt32))).toInt - ((((c1 &&& (255 : Int32))).toUInt32.toUInt16.toUInt32.toInt32)).toInt) % 65536 = 0 ∧ 0 ≤ ((nar .char (((c1 &&& (255 : Int32))).toUInt32.toUInt16.toUInt32.toInt32))).toInt ∧ ((nar .char (((c1 &&& (255 : Int32))).toUInt32.toUInt16.toUInt32.toInt32))).toInt < 65536 := c_i2c (((c1 &&& (255 : Int32))).toUInt32.toUInt16.toUInt32.toInt32)
            have r13 := rng32 c2
            have e12 : ((c2 &&& (255 : Int32))).toInt = (c2).toInt % 256 := c_mask c2 (255 : Int32) 8 (by decide) (by decide)
            have e11 := c_i2c (c2 &&& (255 : Int32))
            have e10 : (((nar .char (((c2 &&& (255 : Int32))).toUInt32.toUInt16.toUInt32.toInt32))).toInt - ((((c2 &&& (255 : Int32))).toUInt32.toUInt16.toUInt32.toInt32)).toInt) % 65536 = 0 ∧ 0 ≤ ((nar .char (((c2 &&& (255 : Int32))).toUInt32.toUInt16.toUInt32.toInt32))).toInt ∧ ((nar .char (((c2 &&& (255 : Int32))).toUInt32.toUInt16.toUInt32.toInt32))).toInt < 65536 := c_i2c (((c2 &&& (255 : Int32))).toUInt32.toUInt16.toUInt32.toInt32)
            have e15 : (196 : Int32).toInt = 196 := rfl
            have r18 := rng32 a
            have e17 : ((a &&& (2147483647 : Int32))).toInt = (a).toInt % 2147483648 := c_mask a (2147483647 : Int32) 31 (by decide) (by decide)
            have e16 : (0 ≤ ((a &&& (2147483647 : Int32))).toInt → (((a &&& (2147483647 : Int32)) % (13 : Int32))).toInt = ((a &&& (2147483647 : Int32))).toInt % 13) ∧ (((a &&& (2147483647 : Int32))).toInt < 0 → (((a &&& (2147483647 : Int32)) % (13 : Int32))).toInt = -((-((a &&& (2147483647 : Int32))).toInt) % 13)) := c_irem (a &&& (2147483647 : Int32)) (13 : Int32) 13 rfl
            have e14 := c_iadd (196 : Int32) ((a &&& (2147483647 : Int32)) % (13 : Int32))
            have r14 := rng32 ((196 : Int32) + ((a &&& (2147483647 : Int32)) % (13 : Int32)))
            have e19 : (200 : Int32).toInt = 200 := rfl
            have e20 : (204 : Int32).toInt = 204 := rfl
            have e22 := c_i2l ((196 : Int32) + ((a &&& (2147483647 : Int32)) % (13 : Int32)))
            have e23 : (200 : Int64).toInt = 200 := rfl
            have e21 := c_lsub ((((196 : Int32) + ((a &&& (2147483647 : Int32)) % (13 : Int32)))).toInt64) (200 : Int64)
            have r21 := rng64 (((((196 : Int32) + ((a &&& (2147483647 : Int32)) % (13 : Int32)))).toInt64) - (200 : Int64))
            have e24 : (0 : Int64).toInt = 0 := rfl
            have e25 : (4 : Int64).toInt = 4 := rfl
            have e26 : (201 : Int32).toInt = 201 := rfl
            have e27 : (202 : Int32).toInt = 202 := rfl
            have e28 : (1 : Int32).toInt = 1 := rfl
            omega
          · refine G.cast (st' := [(.int (1 : Int32)), (.int (0 : Int32))]) ?_ rfl
            refine g_icmp_ne cx d0_130 (fun hc130 => ?_) (fun q => absurd q (fun q => by revert q; decide))
            refine g_iconst cx d0_144 (v := (0 : Int32)) rfl ?_
            refine g_retZ cx d0_145 rfl rfl (by decide) (by decide) ?_
            exfalso
            have i_hc3 : ¬ ((sel &&& (1 : Int32))).toInt = ((0 : Int32)).toInt := fun z => hc3 (Int32.toInt_inj.mp z)
            have i_hq361 : ¬ (cs).toInt = ((0 : Int32)).toInt := fun z => hq361 (Int32.toInt_inj.mp z)
            have i_hq362 : ¬ ((255 : Int32)).toInt < ((nar .char (((c1 &&& (255 : Int32))).toUInt32.toUInt16.toUInt32.toInt32))).toInt := fun z => hq362 (Int32.lt_iff_toInt_lt.mpr z)
            have i_hq375 : ¬ (cs).toInt = ((0 : Int32)).toInt := fun z => hq375 (Int32.toInt_inj.mp z)
            have i_hq376 : ¬ ((255 : Int32)).toInt < ((nar .char (((c2 &&& (255 : Int32))).toUInt32.toUInt16.toUInt32.toInt32))).toInt := fun z => hq376 (Int32.lt_iff_toInt_lt.mpr z)
            have i_hq387 : ¬ (((196 : Int32) + ((a &&& (2147483647 : Int32)) % (13 : Int32)))).toInt < ((200 : Int32)).toInt := fun z => hq387 (Int32.lt_iff_toInt_lt.mpr z)
            have i_hq388 : ((204 : Int32)).toInt < (((196 : Int32) + ((a &&& (2147483647 : Int32)) % (13 : Int32)))).toInt := Int32.lt_iff_toInt_lt.mp hq388
            have i_hc104 : ¬ ((((((196 : Int32) + ((a &&& (2147483647 : Int32)) % (13 : Int32)))).toInt64) - (200 : Int64))).toInt < ((0 : Int64)).toInt := fun z => hc104 (Int64.lt_iff_toInt_lt.mpr z)
            have i_hc113 : ¬ ((4 : Int64)).toInt < ((((((196 : Int32) + ((a &&& (2147483647 : Int32)) % (13 : Int32)))).toInt64) - (200 : Int64))).toInt := fun z => hc113 (Int64.lt_iff_toInt_lt.mpr z)
            have i_hq550 : ¬ (((196 : Int32) + ((a &&& (2147483647 : Int32)) % (13 : Int32)))).toInt = ((200 : Int32)).toInt := fun z => hq550 (Int32.toInt_inj.mp z)
            have i_hq551 : ¬ (((196 : Int32) + ((a &&& (2147483647 : Int32)) % (13 : Int32)))).toInt = ((201 : Int32)).toInt := fun z => hq551 (Int32.toInt_inj.mp z)
            have i_hq552 : ¬ (((196 : Int32) + ((a &&& (2147483647 : Int32)) % (13 : Int32)))).toInt = ((202 : Int32)).toInt := fun z => hq552 (Int32.toInt_inj.mp z)
            have i_hq553 : (((196 : Int32) + ((a &&& (2147483647 : Int32)) % (13 : Int32)))).toInt = ((203 : Int32)).toInt := congrArg Int32.toInt hq553
            have i_hc130 : ¬ ((0 : Int32)).toInt = ((1 : Int32)).toInt := fun z => hc130 (Int32.toInt_inj.mp z)
            have r2 := rng32 sel
            have e1 : ((sel &&& (1 : Int32))).toInt = (sel).toInt % 2 := c_mask sel (1 : Int32) 1 (by decide) (by decide)
            have e3 : (0 : Int32).toInt = 0 := rfl
            have r4 := rng32 cs
            have e5 : (255 : Int32).toInt = 255 := rfl
            have r9 := rng32 c1
            have e8 : ((c1 &&& (255 : Int32))).toInt = (c1).toInt % 256 := c_mask c1 (255 : Int32) 8 (by decide) (by decide)
            have e7 := c_i2c (c1 &&& (255 : Int32))
            have e6 : (((nar .char (((c1 &&& (255 : Int32))).toUInt32.toUInt16.toUInt32.toInt32))).toInt - ((((c1 &&& (255 : Int32))).toUInt32.toUInt16.toUInt32.toInt32)).toInt) % 65536 = 0 ∧ 0 ≤ ((nar .char (((c1 &&& (255 : Int32))).toUInt32.toUInt16.toUInt32.toInt32))).toInt ∧ ((nar .char (((c1 &&& (255 : Int32))).toUInt32.toUInt16.toUInt32.toInt32))).toInt < 65536 := c_i2c (((c1 &&& (255 : Int32))).toUInt32.toUInt16.toUInt32.toInt32)
            have r13 := rng32 c2
            have e12 : ((c2 &&& (255 : Int32))).toInt = (c2).toInt % 256 := c_mask c2 (255 : Int32) 8 (by decide) (by decide)
            have e11 := c_i2c (c2 &&& (255 : Int32))
            have e10 : (((nar .char (((c2 &&& (255 : Int32))).toUInt32.toUInt16.toUInt32.toInt32))).toInt - ((((c2 &&& (255 : Int32))).toUInt32.toUInt16.toUInt32.toInt32)).toInt) % 65536 = 0 ∧ 0 ≤ ((nar .char (((c2 &&& (255 : Int32))).toUInt32.toUInt16.toUInt32.toInt32))).toInt ∧ ((nar .char (((c2 &&& (255 : Int32))).toUInt32.toUInt16.toUInt32.toInt32))).toInt < 65536 := c_i2c (((c2 &&& (255 : Int32))).toUInt32.toUInt16.toUInt32.toInt32)
            have e15 : (196 : Int32).toInt = 196 := rfl
            have r18 := rng32 a
            have e17 : ((a &&& (2147483647 : Int32))).toInt = (a).toInt % 2147483648 := c_mask a (2147483647 : Int32) 31 (by decide) (by decide)
            have e16 : (0 ≤ ((a &&& (2147483647 : Int32))).toInt → (((a &&& (2147483647 : Int32)) % (13 : Int32))).toInt = ((a &&& (2147483647 : Int32))).toInt % 13) ∧ (((a &&& (2147483647 : Int32))).toInt < 0 → (((a &&& (2147483647 : Int32)) % (13 : Int32))).toInt = -((-((a &&& (2147483647 : Int32))).toInt) % 13)) := c_irem (a &&& (2147483647 : Int32)) (13 : Int32) 13 rfl
            have e14 := c_iadd (196 : Int32) ((a &&& (2147483647 : Int32)) % (13 : Int32))
            have r14 := rng32 ((196 : Int32) + ((a &&& (2147483647 : Int32)) % (13 : Int32)))
            have e19 : (200 : Int32).toInt = 200 := rfl
            have e20 : (204 : Int32).toInt = 204 := rfl
            have e22 := c_i2l ((196 : Int32) + ((a &&& (2147483647 : Int32)) % (13 : Int32)))
            have e23 : (200 : Int64).toInt = 200 := rfl
            have e21 := c_lsub ((((196 : Int32) + ((a &&& (2147483647 : Int32)) % (13 : Int32)))).toInt64) (200 : Int64)
            have r21 := rng64 (((((196 : Int32) + ((a &&& (2147483647 : Int32)) % (13 : Int32)))).toInt64) - (200 : Int64))
            have e24 : (0 : Int64).toInt = 0 := rfl
            have e25 : (4 : Int64).toInt = 4 := rfl
            have e26 : (201 : Int32).toInt = 201 := rfl
            have e27 : (202 : Int32).toInt = 202 := rfl
            have e28 : (203 : Int32).toInt = 203 := rfl
            have e29 : (1 : Int32).toInt = 1 := rfl
            omega
          · refine G.cast (st' := [(.int (0 : Int32)), (.int (0 : Int32))]) ?_ rfl
            refine g_icmp_ne cx d0_130 (fun q => absurd q (fun q => by revert q; decide)) (fun hc130 => ?_)
            refine g_iload cx d0_133 rfl ?_
            refine g_iload cx d0_135 rfl ?_
            refine g_icmp_ne cx d0_137 (fun hc137 => ?_) (fun q => absurd q (fun q => by revert q; decide))
            refine g_iconst cx d0_144 (v := (0 : Int32)) rfl ?_
            refine g_retZ cx d0_145 rfl rfl (by decide) (by decide) ?_
            exfalso
            have i_hc3 : ¬ ((sel &&& (1 : Int32))).toInt = ((0 : Int32)).toInt := fun z => hc3 (Int32.toInt_inj.mp z)
            have i_hq361 : ¬ (cs).toInt = ((0 : Int32)).toInt := fun z => hq361 (Int32.toInt_inj.mp z)
            have i_hq362 : ¬ ((255 : Int32)).toInt < ((nar .char (((c1 &&& (255 : Int32))).toUInt32.toUInt16.toUInt32.toInt32))).toInt := fun z => hq362 (Int32.lt_iff_toInt_lt.mpr z)
            have i_hq375 : ¬ (cs).toInt = ((0 : Int32)).toInt := fun z => hq375 (Int32.toInt_inj.mp z)
            have i_hq376 : ¬ ((255 : Int32)).toInt < ((nar .char (((c2 &&& (255 : Int32))).toUInt32.toUInt16.toUInt32.toInt32))).toInt := fun z => hq376 (Int32.lt_iff_toInt_lt.mpr z)
            have i_hq387 : ¬ (((196 : Int32) + ((a &&& (2147483647 : Int32)) % (13 : Int32)))).toInt < ((200 : Int32)).toInt := fun z => hq387 (Int32.lt_iff_toInt_lt.mpr z)
            have i_hq388 : ((204 : Int32)).toInt < (((196 : Int32) + ((a &&& (2147483647 : Int32)) % (13 : Int32)))).toInt := Int32.lt_iff_toInt_lt.mp hq388
            have i_hc104 : ¬ ((((((196 : Int32) + ((a &&& (2147483647 : Int32)) % (13 : Int32)))).toInt64) - (200 : Int64))).toInt < ((0 : Int64)).toInt := fun z => hc104 (Int64.lt_iff_toInt_lt.mpr z)
            have i_hc113 : ¬ ((4 : Int64)).toInt < ((((((196 : Int32) + ((a &&& (2147483647 : Int32)) % (13 : Int32)))).toInt64) - (200 : Int64))).toInt := fun z => hc113 (Int64.lt_iff_toInt_lt.mpr z)
            have i_hq555 : ¬ (((196 : Int32) + ((a &&& (2147483647 : Int32)) % (13 : Int32)))).toInt = ((200 : Int32)).toInt := fun z => hq555 (Int32.toInt_inj.mp z)
            have i_hq556 : ¬ (((196 : Int32) + ((a &&& (2147483647 : Int32)) % (13 : Int32)))).toInt = ((201 : Int32)).toInt := fun z => hq556 (Int32.toInt_inj.mp z)
            have i_hq557 : ¬ (((196 : Int32) + ((a &&& (2147483647 : Int32)) % (13 : Int32)))).toInt = ((202 : Int32)).toInt := fun z => hq557 (Int32.toInt_inj.mp z)
            have i_hq558 : ¬ (((196 : Int32) + ((a &&& (2147483647 : Int32)) % (13 : Int32)))).toInt = ((203 : Int32)).toInt := fun z => hq558 (Int32.toInt_inj.mp z)
            have i_hq559 : ¬ (((196 : Int32) + ((a &&& (2147483647 : Int32)) % (13 : Int32)))).toInt = ((204 : Int32)).toInt := fun z => hq559 (Int32.toInt_inj.mp z)
            have i_hc130 : ((0 : Int32)).toInt = ((0 : Int32)).toInt := congrArg Int32.toInt hc130
            have i_hc137 : ¬ ((0 : Int32)).toInt = ((1 : Int32)).toInt := fun z => hc137 (Int32.toInt_inj.mp z)
            have r2 := rng32 sel
            have e1 : ((sel &&& (1 : Int32))).toInt = (sel).toInt % 2 := c_mask sel (1 : Int32) 1 (by decide) (by decide)
            have e3 : (0 : Int32).toInt = 0 := rfl
            have r4 := rng32 cs
            have e5 : (255 : Int32).toInt = 255 := rfl
            have r9 := rng32 c1
            have e8 : ((c1 &&& (255 : Int32))).toInt = (c1).toInt % 256 := c_mask c1 (255 : Int32) 8 (by decide) (by decide)
            have e7 := c_i2c (c1 &&& (255 : Int32))
            have e6 : (((nar .char (((c1 &&& (255 : Int32))).toUInt32.toUInt16.toUInt32.toInt32))).toInt - ((((c1 &&& (255 : Int32))).toUInt32.toUInt16.toUInt32.toInt32)).toInt) % 65536 = 0 ∧ 0 ≤ ((nar .char (((c1 &&& (255 : Int32))).toUInt32.toUInt16.toUInt32.toInt32))).toInt ∧ ((nar .char (((c1 &&& (255 : Int32))).toUInt32.toUInt16.toUInt32.toInt32))).toInt < 65536 := c_i2c (((c1 &&& (255 : Int32))).toUInt32.toUInt16.toUInt32.toInt32)
            have r13 := rng32 c2
            have e12 : ((c2 &&& (255 : Int32))).toInt = (c2).toInt % 256 := c_mask c2 (255 : Int32) 8 (by decide) (by decide)
            have e11 := c_i2c (c2 &&& (255 : Int32))
            have e10 : (((nar .char (((c2 &&& (255 : Int32))).toUInt32.toUInt16.toUInt32.toInt32))).toInt - ((((c2 &&& (255 : Int32))).toUInt32.toUInt16.toUInt32.toInt32)).toInt) % 65536 = 0 ∧ 0 ≤ ((nar .char (((c2 &&& (255 : Int32))).toUInt32.toUInt16.toUInt32.toInt32))).toInt ∧ ((nar .char (((c2 &&& (255 : Int32))).toUInt32.toUInt16.toUInt32.toInt32))).toInt < 65536 := c_i2c (((c2 &&& (255 : Int32))).toUInt32.toUInt16.toUInt32.toInt32)
            have e15 : (196 : Int32).toInt = 196 := rfl
            have r18 := rng32 a
            have e17 : ((a &&& (2147483647 : Int32))).toInt = (a).toInt % 2147483648 := c_mask a (2147483647 : Int32) 31 (by decide) (by decide)
            have e16 : (0 ≤ ((a &&& (2147483647 : Int32))).toInt → (((a &&& (2147483647 : Int32)) % (13 : Int32))).toInt = ((a &&& (2147483647 : Int32))).toInt % 13) ∧ (((a &&& (2147483647 : Int32))).toInt < 0 → (((a &&& (2147483647 : Int32)) % (13 : Int32))).toInt = -((-((a &&& (2147483647 : Int32))).toInt) % 13)) := c_irem (a &&& (2147483647 : Int32)) (13 : Int32) 13 rfl
            have e14 := c_iadd (196 : Int32) ((a &&& (2147483647 : Int32)) % (13 : Int32))
            have r14 := rng32 ((196 : Int32) + ((a &&& (2147483647 : Int32)) % (13 : Int32)))
            have e19 : (200 : Int32).toInt = 200 := rfl
            have e20 : (204 : Int32).toInt = 204 := rfl
            have e22 := c_i2l ((196 : Int32) + ((a &&& (2147483647 : Int32)) % (13 : Int32)))
            have e23 : (200 : Int64).toInt = 200 := rfl
            have e21 := c_lsub ((((196 : Int32) + ((a &&& (2147483647 : Int32)) % (13 : Int32)))).toInt64) (200 : Int64)
            have r21 := rng64 (((((196 : Int32) + ((a &&& (2147483647 : Int32)) % (13 : Int32)))).toInt64) - (200 : Int64))
            have e24 : (0 : Int64).toInt = 0 := rfl
            have e25 : (4 : Int64).toInt = 4 := rfl
            have e26 : (201 : Int32).toInt = 201 := rfl
            have e27 : (202 : Int32).toInt = 202 := rfl
            have e28 : (203 : Int32).toInt = 203 := rfl
            have e29 : (1 : Int32).toInt = 1 := rfl
            omega
          · refine G.cast (st' := [(.int (1 : Int32)), (.int (0 : Int32))]) ?_ rfl
            refine g_icmp_ne cx d0_130 (fun hc130 => ?_) (fun q => absurd q (fun q => by revert q; decide))
            refine g_iconst cx d0_144 (v := (0 : Int32)) rfl ?_
            refine g_retZ cx d0_145 rfl rfl (by decide) (by decide) ?_
            exfalso
            have i_hc3 : ¬ ((sel &&& (1 : Int32))).toInt = ((0 : Int32)).toInt := fun z => hc3 (Int32.toInt_inj.mp z)
            have i_hq361 : ¬ (cs).toInt = ((0 : Int32)).toInt := fun z => hq361 (Int32.toInt_inj.mp z)
            have i_hq362 : ¬ ((255 : Int32)).toInt < ((nar .char (((c1 &&& (255 : Int32))).toUInt32.toUInt16.toUInt32.toInt32))).toInt := fun z => hq362 (Int32.lt_iff_toInt_lt.mpr z)
            have i_hq375 : ¬ (cs).toInt = ((0 : Int32)).toInt := fun z => hq375 (Int32.toInt_inj.mp z)
            have i_hq376 : ¬ ((255 : Int32)).toInt < ((nar .char (((c2 &&& (255 : Int32))).toUInt32.toUInt16.toUInt32.toInt32))).toInt := fun z => hq376 (Int32.lt_iff_toInt_lt.mpr z)
            have i_hq387 : ¬ (((196 : Int32) + ((a &&& (2147483647 : Int32)) % (13 : Int32)))).toInt < ((200 : Int32)).toInt := fun z => hq387 (Int32.lt_iff_toInt_lt.mpr z)
            have i_hq388 : ((204 : Int32)).toInt < (((196 : Int32) + ((a &&& (2147483647 : Int32)) % (13 : Int32)))).toInt := Int32.lt_iff_toInt_lt.mp hq388
            have i_hc104 : ¬ ((((((196 : Int32) + ((a &&& (2147483647 : Int32)) % (13 : Int32)))).toInt64) - (200 : Int64))).toInt < ((0 : Int64)).toInt := fun z => hc104 (Int64.lt_iff_toInt_lt.mpr z)
            have i_hc113 : ¬ ((4 : Int64)).toInt < ((((((196 : Int32) + ((a &&& (2147483647 : Int32)) % (13 : Int32)))).toInt64) - (200 : Int64))).toInt := fun z => hc113 (Int64.lt_iff_toInt_lt.mpr z)
            have i_hq561 : ¬ (((196 : Int32) + ((a &&& (2147483647 : Int32)) % (13 : Int32)))).toInt = ((200 : Int32)).toInt := fun z => hq561 (Int32.toInt_inj.mp z)
            have i_hq562 : ¬ (((196 : Int32) + ((a &&& (2147483647 : Int32)) % (13 : Int32)))).toInt = ((201 : Int32)).toInt := fun z => hq562 (Int32.toInt_inj.mp z)
            have i_hq563 : ¬ (((196 : Int32) + ((a &&& (2147483647 : Int32)) % (13 : Int32)))).toInt = ((202 : Int32)).toInt := fun z => hq563 (Int32.toInt_inj.mp z)
            have i_hq564 : ¬ (((196 : Int32) + ((a &&& (2147483647 : Int32)) % (13 : Int32)))).toInt = ((203 : Int32)).toInt := fun z => hq564 (Int32.toInt_inj.mp z)
            have i_hq565 : (((196 : Int32) + ((a &&& (2147483647 : Int32)) % (13 : Int32)))).toInt = ((204 : Int32)).toInt := congrArg Int32.toInt hq565
            have i_hc130 : ¬ ((0 : Int32)).toInt = ((1 : Int32)).toInt := fun z => hc130 (Int32.toInt_inj.mp z)
            have r2 := rng32 sel
            have e1 : ((sel &&& (1 : Int32))).toInt = (sel).toInt % 2 := c_mask sel (1 : Int32) 1 (by decide) (by decide)
            have e3 : (0 : Int32).toInt = 0 := rfl
            have r4 := rng32 cs
            have e5 : (255 : Int32).toInt = 255 := rfl
            have r9 := rng32 c1
            have e8 : ((c1 &&& (255 : Int32))).toInt = (c1).toInt % 256 := c_mask c1 (255 : Int32) 8 (by decide) (by decide)
            have e7 := c_i2c (c1 &&& (255 : Int32))
            have e6 : (((nar .char (((c1 &&& (255 : Int32))).toUInt32.toUInt16.toUInt32.toInt32))).toInt - ((((c1 &&& (255 : Int32))).toUInt32.toUInt16.toUInt32.toInt32)).toInt) % 65536 = 0 ∧ 0 ≤ ((nar .char (((c1 &&& (255 : Int32))).toUInt32.toUInt16.toUInt32.toInt32))).toInt ∧ ((nar .char (((c1 &&& (255 : Int32))).toUInt32.toUInt16.toUInt32.toInt32))).toInt < 65536 := c_i2c (((c1 &&& (255 : Int32))).toUInt32.toUInt16.toUInt32.toInt32)
            have r13 := rng32 c2
            have e12 : ((c2 &&& (255 : Int32))).toInt = (c2).toInt % 256 := c_mask c2 (255 : Int32) 8 (by decide) (by decide)
            have e11 := c_i2c (c2 &&& (255 : Int32))
            have e10 : (((nar .char (((c2 &&& (255 : Int32))).toUInt32.toUInt16.toUInt32.toInt32))).toInt - ((((c2 &&& (255 : Int32))).toUInt32.toUInt16.toUInt32.toInt32)).toInt) % 65536 = 0 ∧ 0 ≤ ((nar .char (((c2 &&& (255 : Int32))).toUInt32.toUInt16.toUInt32.toInt32))).toInt ∧ ((nar .char (((c2 &&& (255 : Int32))).toUInt32.toUInt16.toUInt32.toInt32))).toInt < 65536 := c_i2c (((c2 &&& (255 : Int32))).toUInt32.toUInt16.toUInt32.toInt32)
            have e15 : (196 : Int32).toInt = 196 := rfl
            have r18 := rng32 a
            have e17 : ((a &&& (2147483647 : Int32))).toInt = (a).toInt % 2147483648 := c_mask a (2147483647 : Int32) 31 (by decide) (by decide)
            have e16 : (0 ≤ ((a &&& (2147483647 : Int32))).toInt → (((a &&& (2147483647 : Int32)) % (13 : Int32))).toInt = ((a &&& (2147483647 : Int32))).toInt % 13) ∧ (((a &&& (2147483647 : Int32))).toInt < 0 → (((a &&& (2147483647 : Int32)) % (13 : Int32))).toInt = -((-((a &&& (2147483647 : Int32))).toInt) % 13)) := c_irem (a &&& (2147483647 : Int32)) (13 : Int32) 13 rfl
            have e14 := c_iadd (196 : Int32) ((a &&& (2147483647 : Int32)) % (13 : Int32))
            have r14 := rng32 ((196 : Int32) + ((a &&& (2147483647 : Int32)) % (13 : Int32)))
            have e19 : (200 : Int32).toInt = 200 := rfl
            have e20 : (204 : Int32).toInt = 204 := rfl
            have e22 := c_i2l ((196 : Int32) + ((a &&& (2147483647 : Int32)) % (13 : Int32)))
            have e23 : (200 : Int64).toInt = 200 := rfl
            have e21 := c_lsub ((((196 : Int32) + ((a &&& (2147483647 : Int32)) % (13 : Int32)))).toInt64) (200 : Int64)
            have r21 := rng64 (((((196 : Int32) + ((a &&& (2147483647 : Int32)) % (13 : Int32)))).toInt64) - (200 : Int64))
            have e24 : (0 : Int64).toInt = 0 := rfl
            have e25 : (4 : Int64).toInt = 4 := rfl
            have e26 : (201 : Int32).toInt = 201 := rfl
            have e27 : (202 : Int32).toInt = 202 := rfl
            have e28 : (203 : Int32).toInt = 203 := rfl
            have e29 : (1 : Int32).toInt = 1 := rfl
            omega
    · refine G.cast (st' := [(.int (1 : Int32))]) ?_ rfl
      refine g_istore cx d0_89 (Ls' := #[.val (.int a), .val (.int sel), .val (.int c1), .val (.int c2), .val (.int ((196 : Int32) + ((a &&& (2147483647 : Int32)) % (13 : Int32)))), .val (.ref b330), .val (.ref b339), .val (.ref b348), .val (.int (1 : Int32)), .unset, .unset, .unset]) rfl ?_
      refine g_iload cx d0_91 rfl ?_
      refine g_i2l cx d0_93 ?_
      refine g_ldcJ cx d0_94 (hw _ (List.mem_of_getElem? (i := 54) rfl)) ?_
      refine g_lsub cx d0_97 ?_
      refine g_lstore cx d0_98 (Ls' := #[.val (.int a), .val (.int sel), .val (.int c1), .val (.int c2), .val (.int ((196 : Int32) + ((a &&& (2147483647 : Int32)) % (13 : Int32)))), .val (.ref b330), .val (.ref b339), .val (.ref b348), .val (.int (1 : Int32)), .val (.long (((((196 : Int32) + ((a &&& (2147483647 : Int32)) % (13 : Int32)))).toInt64) - (200 : Int64))), .second, .unset]) rfl ?_
      refine g_lload cx d0_100 rfl ?_
      refine g_lconst cx d0_102 (v := (0 : Int64)) rfl ?_
      refine g_lif_lt cx d0_103 d0_104 (fun hc104 => ?_) (fun hc104 => ?_)
      · refine g_iconst cx d0_120 (v := (0 : Int32)) rfl ?_
        refine g_istore cx d0_121 (Ls' := #[.val (.int a), .val (.int sel), .val (.int c1), .val (.int c2), .val (.int ((196 : Int32) + ((a &&& (2147483647 : Int32)) % (13 : Int32)))), .val (.ref b330), .val (.ref b339), .val (.ref b348), .val (.int (1 : Int32)), .val (.long (((((196 : Int32) + ((a &&& (2147483647 : Int32)) % (13 : Int32)))).toInt64) - (200 : Int64))), .second, .val (.int (0 : Int32))]) rfl ?_
        refine g_iload cx d0_123 rfl ?_
        refine g_iload cx d0_125 rfl ?_
        refine g_static cx (y := (⟨"com/example/egret/egret/service/OutcomeDeliveredPinLaw", "isSuccessStatus", "(I)Z"⟩ : MethodName)) d0_127 (hw _ (List.mem_of_getElem? (i := 55) rfl)) (hw _ (List.mem_of_getElem? (i := 56) rfl)) (hw _ (List.mem_of_getElem? (i := 57) rfl)) (hw _ (List.mem_of_getElem? (i := 58) rfl)) (by decide) (bytes := method_2_code) (maxL' := 1) (M := (ra8 l Z a0 hw ((196 : Int32) + ((a &&& (2147483647 : Int32)) % (13 : Int32))) _  OL cs SCS ncs)) rfl (lenOf pd_8 rfl) (by decide) (W := 1) (Nat.le_of_eq rfl) (by decide) (k' := 7) (n' := 15) rfl rfl (by decide) (by decide) (argsL := [(.int ((196 : Int32) + ((a &&& (2147483647 : Int32)) % (13 : Int32))))]) (rest := [(.int (1 : Int32))]) rfl (fun v597 h596 q598 => ?_)
        rcases q598 with ⟨hq570, rfl, rfl⟩ | ⟨hq572, hq573, rfl, rfl⟩ | ⟨hq575, hq576, hq577, rfl, rfl⟩ | ⟨hq579, hq580, hq581, hq582, rfl, rfl⟩ | ⟨hq584, hq585, hq586, hq587, hq588, rfl, rfl⟩ | ⟨hq590, hq591, hq592, hq593, hq594, rfl, rfl⟩
        · refine G.cast (st' := [(.int (1 : Int32)), (.int (1 : Int32))]) ?_ rfl
          refine g_icmp_ne cx d0_130 (fun q => absurd q (fun q => by revert q; decide)) (fun hc130 => ?_)
          refine g_iload cx d0_133 rfl ?_
          refine g_iload cx d0_135 rfl ?_
          refine g_icmp_ne cx d0_137 (fun hc137 => ?_) (fun q => absurd q (fun q => by revert q; decide))
          refine g_iconst cx d0_144 (v := (0 : Int32)) rfl ?_
          refine g_retZ cx d0_145 rfl rfl (by decide) (by decide) ?_
          exfalso
          have i_hc3 : ¬ ((sel &&& (1 : Int32))).toInt = ((0 : Int32)).toInt := fun z => hc3 (Int32.toInt_inj.mp z)
          have i_hq361 : ¬ (cs).toInt = ((0 : Int32)).toInt := fun z => hq361 (Int32.toInt_inj.mp z)
          have i_hq362 : ¬ ((255 : Int32)).toInt < ((nar .char (((c1 &&& (255 : Int32))).toUInt32.toUInt16.toUInt32.toInt32))).toInt := fun z => hq362 (Int32.lt_iff_toInt_lt.mpr z)
          have i_hq375 : ¬ (cs).toInt = ((0 : Int32)).toInt := fun z => hq375 (Int32.toInt_inj.mp z)
          have i_hq376 : ¬ ((255 : Int32)).toInt < ((nar .char (((c2 &&& (255 : Int32))).toUInt32.toUInt16.toUInt32.toInt32))).toInt := fun z => hq376 (Int32.lt_iff_toInt_lt.mpr z)
          have i_hq390 : ¬ (((196 : Int32) + ((a &&& (2147483647 : Int32)) % (13 : Int32)))).toInt < ((200 : Int32)).toInt := fun z => hq390 (Int32.lt_iff_toInt_lt.mpr z)
          have i_hq391 : ¬ ((204 : Int32)).toInt < (((196 : Int32) + ((a &&& (2147483647 : Int32)) % (13 : Int32)))).toInt := fun z => hq391 (Int32.lt_iff_toInt_lt.mpr z)
          have i_hc104 : ((((((196 : Int32) + ((a &&& (2147483647 : Int32)) % (13 : Int32)))).toInt64) - (200 : Int64))).toInt < ((0 : Int64)).toInt := Int64.lt_iff_toInt_lt.mp hc104
          have i_hq570 : (((196 : Int32) + ((a &&& (2147483647 : Int32)) % (13 : Int32)))).toInt = ((200 : Int32)).toInt := congrArg Int32.toInt hq570
          have i_hc130 : ((1 : Int32)).toInt = ((1 : Int32)).toInt := congrArg Int32.toInt hc130
          have i_hc137 : ¬ ((1 : Int32)).toInt = ((0 : Int32)).toInt := fun z => hc137 (Int32.toInt_inj.mp z)
          have r2 := rng32 sel
          have e1 : ((sel &&& (1 : Int32))).toInt = (sel).toInt % 2 := c_mask sel (1 : Int32) 1 (by decide) (by decide)
          have e3 : (0 : Int32).toInt = 0 := rfl
          have r4 := rng32 cs
          have e5 : (255 : Int32).toInt = 255 := rfl
          have r9 := rng32 c1
          have e8 : ((c1 &&& (255 : Int32))).toInt = (c1).toInt % 256 := c_mask c1 (255 : Int32) 8 (by decide) (by decide)
          have e7 := c_i2c (c1 &&& (255 : Int32))
          have e6 : (((nar .char (((c1 &&& (255 : Int32))).toUInt32.toUInt16.toUInt32.toInt32))).toInt - ((((c1 &&& (255 : Int32))).toUInt32.toUInt16.toUInt32.toInt32)).toInt) % 65536 = 0 ∧ 0 ≤ ((nar .char (((c1 &&& (255 : Int32))).toUInt32.toUInt16.toUInt32.toInt32))).toInt ∧ ((nar .char (((c1 &&& (255 : Int32))).toUInt32.toUInt16.toUInt32.toInt32))).toInt < 65536 := c_i2c (((c1 &&& (255 : Int32))).toUInt32.toUInt16.toUInt32.toInt32)
          have r13 := rng32 c2
          have e12 : ((c2 &&& (255 : Int32))).toInt = (c2).toInt % 256 := c_mask c2 (255 : Int32) 8 (by decide) (by decide)
          have e11 := c_i2c (c2 &&& (255 : Int32))
          have e10 : (((nar .char (((c2 &&& (255 : Int32))).toUInt32.toUInt16.toUInt32.toInt32))).toInt - ((((c2 &&& (255 : Int32))).toUInt32.toUInt16.toUInt32.toInt32)).toInt) % 65536 = 0 ∧ 0 ≤ ((nar .char (((c2 &&& (255 : Int32))).toUInt32.toUInt16.toUInt32.toInt32))).toInt ∧ ((nar .char (((c2 &&& (255 : Int32))).toUInt32.toUInt16.toUInt32.toInt32))).toInt < 65536 := c_i2c (((c2 &&& (255 : Int32))).toUInt32.toUInt16.toUInt32.toInt32)
          have e15 : (196 : Int32).toInt = 196 := rfl
          have r18 := rng32 a
          have e17 : ((a &&& (2147483647 : Int32))).toInt = (a).toInt % 2147483648 := c_mask a (2147483647 : Int32) 31 (by decide) (by decide)
          have e16 : (0 ≤ ((a &&& (2147483647 : Int32))).toInt → (((a &&& (2147483647 : Int32)) % (13 : Int32))).toInt = ((a &&& (2147483647 : Int32))).toInt % 13) ∧ (((a &&& (2147483647 : Int32))).toInt < 0 → (((a &&& (2147483647 : Int32)) % (13 : Int32))).toInt = -((-((a &&& (2147483647 : Int32))).toInt) % 13)) := c_irem (a &&& (2147483647 : Int32)) (13 : Int32) 13 rfl
          have e14 := c_iadd (196 : Int32) ((a &&& (2147483647 : Int32)) % (13 : Int32))
          have r14 := rng32 ((196 : Int32) + ((a &&& (2147483647 : Int32)) % (13 : Int32)))
          have e19 : (200 : Int32).toInt = 200 := rfl
          have e20 : (204 : Int32).toInt = 204 := rfl
          have e22 := c_i2l ((196 : Int32) + ((a &&& (2147483647 : Int32)) % (13 : Int32)))
          have e23 : (200 : Int64).toInt = 200 := rfl
          have e21 := c_lsub ((((196 : Int32) + ((a &&& (2147483647 : Int32)) % (13 : Int32)))).toInt64) (200 : Int64)
          have r21 := rng64 (((((196 : Int32) + ((a &&& (2147483647 : Int32)) % (13 : Int32)))).toInt64) - (200 : Int64))
          have e24 : (0 : Int64).toInt = 0 := rfl
          have e25 : (1 : Int32).toInt = 1 := rfl
          omega
        · refine G.cast (st' := [(.int (1 : Int32)), (.int (1 : Int32))]) ?_ rfl
          refine g_icmp_ne cx d0_130 (fun q => absurd q (fun q => by revert q; decide)) (fun hc130 => ?_)
          refine g_iload cx d0_133 rfl ?_
          refine g_iload cx d0_135 rfl ?_
          refine g_icmp_ne cx d0_137 (fun hc137 => ?_) (fun q => absurd q (fun q => by revert q; decide))
          refine g_iconst cx d0_144 (v := (0 : Int32)) rfl ?_
          refine g_retZ cx d0_145 rfl rfl (by decide) (by decide) ?_
          exfalso
          have i_hc3 : ¬ ((sel &&& (1 : Int32))).toInt = ((0 : Int32)).toInt := fun z => hc3 (Int32.toInt_inj.mp z)
          have i_hq361 : ¬ (cs).toInt = ((0 : Int32)).toInt := fun z => hq361 (Int32.toInt_inj.mp z)
          have i_hq362 : ¬ ((255 : Int32)).toInt < ((nar .char (((c1 &&& (255 : Int32))).toUInt32.toUInt16.toUInt32.toInt32))).toInt := fun z => hq362 (Int32.lt_iff_toInt_lt.mpr z)
          have i_hq375 : ¬ (cs).toInt = ((0 : Int32)).toInt := fun z => hq375 (Int32.toInt_inj.mp z)
          have i_hq376 : ¬ ((255 : Int32)).toInt < ((nar .char (((c2 &&& (255 : Int32))).toUInt32.toUInt16.toUInt32.toInt32))).toInt := fun z => hq376 (Int32.lt_iff_toInt_lt.mpr z)
          have i_hq390 : ¬ (((196 : Int32) + ((a &&& (2147483647 : Int32)) % (13 : Int32)))).toInt < ((200 : Int32)).toInt := fun z => hq390 (Int32.lt_iff_toInt_lt.mpr z)
          have i_hq391 : ¬ ((204 : Int32)).toInt < (((196 : Int32) + ((a &&& (2147483647 : Int32)) % (13 : Int32)))).toInt := fun z => hq391 (Int32.lt_iff_toInt_lt.mpr z)
          have i_hc104 : ((((((196 : Int32) + ((a &&& (2147483647 : Int32)) % (13 : Int32)))).toInt64) - (200 : Int64))).toInt < ((0 : Int64)).toInt := Int64.lt_iff_toInt_lt.mp hc104
          have i_hq572 : ¬ (((196 : Int32) + ((a &&& (2147483647 : Int32)) % (13 : Int32)))).toInt = ((200 : Int32)).toInt := fun z => hq572 (Int32.toInt_inj.mp z)
          have i_hq573 : (((196 : Int32) + ((a &&& (2147483647 : Int32)) % (13 : Int32)))).toInt = ((201 : Int32)).toInt := congrArg Int32.toInt hq573
          have i_hc130 : ((1 : Int32)).toInt = ((1 : Int32)).toInt := congrArg Int32.toInt hc130
          have i_hc137 : ¬ ((1 : Int32)).toInt = ((0 : Int32)).toInt := fun z => hc137 (Int32.toInt_inj.mp z)
          have r2 := rng32 sel
          have e1 : ((sel &&& (1 : Int32))).toInt = (sel).toInt % 2 := c_mask sel (1 : Int32) 1 (by decide) (by decide)
          have e3 : (0 : Int32).toInt = 0 := rfl
          have r4 := rng32 cs
          have e5 : (255 : Int32).toInt = 255 := rfl
          have r9 := rng32 c1
          have e8 : ((c1 &&& (255 : Int32))).toInt = (c1).toInt % 256 := c_mask c1 (255 : Int32) 8 (by decide) (by decide)
          have e7 := c_i2c (c1 &&& (255 : Int32))
          have e6 : (((nar .char (((c1 &&& (255 : Int32))).toUInt32.toUInt16.toUInt32.toInt32))).toInt - ((((c1 &&& (255 : Int32))).toUInt32.toUInt16.toUInt32.toInt32)).toInt) % 65536 = 0 ∧ 0 ≤ ((nar .char (((c1 &&& (255 : Int32))).toUInt32.toUInt16.toUInt32.toInt32))).toInt ∧ ((nar .char (((c1 &&& (255 : Int32))).toUInt32.toUInt16.toUInt32.toInt32))).toInt < 65536 := c_i2c (((c1 &&& (255 : Int32))).toUInt32.toUInt16.toUInt32.toInt32)
          have r13 := rng32 c2
          have e12 : ((c2 &&& (255 : Int32))).toInt = (c2).toInt % 256 := c_mask c2 (255 : Int32) 8 (by decide) (by decide)
          have e11 := c_i2c (c2 &&& (255 : Int32))
          have e10 : (((nar .char (((c2 &&& (255 : Int32))).toUInt32.toUInt16.toUInt32.toInt32))).toInt - ((((c2 &&& (255 : Int32))).toUInt32.toUInt16.toUInt32.toInt32)).toInt) % 65536 = 0 ∧ 0 ≤ ((nar .char (((c2 &&& (255 : Int32))).toUInt32.toUInt16.toUInt32.toInt32))).toInt ∧ ((nar .char (((c2 &&& (255 : Int32))).toUInt32.toUInt16.toUInt32.toInt32))).toInt < 65536 := c_i2c (((c2 &&& (255 : Int32))).toUInt32.toUInt16.toUInt32.toInt32)
          have e15 : (196 : Int32).toInt = 196 := rfl
          have r18 := rng32 a
          have e17 : ((a &&& (2147483647 : Int32))).toInt = (a).toInt % 2147483648 := c_mask a (2147483647 : Int32) 31 (by decide) (by decide)
          have e16 : (0 ≤ ((a &&& (2147483647 : Int32))).toInt → (((a &&& (2147483647 : Int32)) % (13 : Int32))).toInt = ((a &&& (2147483647 : Int32))).toInt % 13) ∧ (((a &&& (2147483647 : Int32))).toInt < 0 → (((a &&& (2147483647 : Int32)) % (13 : Int32))).toInt = -((-((a &&& (2147483647 : Int32))).toInt) % 13)) := c_irem (a &&& (2147483647 : Int32)) (13 : Int32) 13 rfl
          have e14 := c_iadd (196 : Int32) ((a &&& (2147483647 : Int32)) % (13 : Int32))
          have r14 := rng32 ((196 : Int32) + ((a &&& (2147483647 : Int32)) % (13 : Int32)))
          have e19 : (200 : Int32).toInt = 200 := rfl
          have e20 : (204 : Int32).toInt = 204 := rfl
          have e22 := c_i2l ((196 : Int32) + ((a &&& (2147483647 : Int32)) % (13 : Int32)))
          have e23 : (200 : Int64).toInt = 200 := rfl
          have e21 := c_lsub ((((196 : Int32) + ((a &&& (2147483647 : Int32)) % (13 : Int32)))).toInt64) (200 : Int64)
          have r21 := rng64 (((((196 : Int32) + ((a &&& (2147483647 : Int32)) % (13 : Int32)))).toInt64) - (200 : Int64))
          have e24 : (0 : Int64).toInt = 0 := rfl
          have e25 : (201 : Int32).toInt = 201 := rfl
          have e26 : (1 : Int32).toInt = 1 := rfl
          omega
        · refine G.cast (st' := [(.int (1 : Int32)), (.int (1 : Int32))]) ?_ rfl
          refine g_icmp_ne cx d0_130 (fun q => absurd q (fun q => by revert q; decide)) (fun hc130 => ?_)
          refine g_iload cx d0_133 rfl ?_
          refine g_iload cx d0_135 rfl ?_
          refine g_icmp_ne cx d0_137 (fun hc137 => ?_) (fun q => absurd q (fun q => by revert q; decide))
          refine g_iconst cx d0_144 (v := (0 : Int32)) rfl ?_
          refine g_retZ cx d0_145 rfl rfl (by decide) (by decide) ?_
          exfalso
          have i_hc3 : ¬ ((sel &&& (1 : Int32))).toInt = ((0 : Int32)).toInt := fun z => hc3 (Int32.toInt_inj.mp z)
          have i_hq361 : ¬ (cs).toInt = ((0 : Int32)).toInt := fun z => hq361 (Int32.toInt_inj.mp z)
          have i_hq362 : ¬ ((255 : Int32)).toInt < ((nar .char (((c1 &&& (255 : Int32))).toUInt32.toUInt16.toUInt32.toInt32))).toInt := fun z => hq362 (Int32.lt_iff_toInt_lt.mpr z)
          have i_hq375 : ¬ (cs).toInt = ((0 : Int32)).toInt := fun z => hq375 (Int32.toInt_inj.mp z)
          have i_hq376 : ¬ ((255 : Int32)).toInt < ((nar .char (((c2 &&& (255 : Int32))).toUInt32.toUInt16.toUInt32.toInt32))).toInt := fun z => hq376 (Int32.lt_iff_toInt_lt.mpr z)
          have i_hq390 : ¬ (((196 : Int32) + ((a &&& (2147483647 : Int32)) % (13 : Int32)))).toInt < ((200 : Int32)).toInt := fun z => hq390 (Int32.lt_iff_toInt_lt.mpr z)
          have i_hq391 : ¬ ((204 : Int32)).toInt < (((196 : Int32) + ((a &&& (2147483647 : Int32)) % (13 : Int32)))).toInt := fun z => hq391 (Int32.lt_iff_toInt_lt.mpr z)
          have i_hc104 : ((((((196 : Int32) + ((a &&& (2147483647 : Int32)) % (13 : Int32)))).toInt64) - (200 : Int64))).toInt < ((0 : Int64)).toInt := Int64.lt_iff_toInt_lt.mp hc104
          have i_hq575 : ¬ (((196 : Int32) + ((a &&& (2147483647 : Int32)) % (13 : Int32)))).toInt = ((200 : Int32)).toInt := fun z => hq575 (Int32.toInt_inj.mp z)
          have i_hq576 : ¬ (((196 : Int32) + ((a &&& (2147483647 : Int32)) % (13 : Int32)))).toInt = ((201 : Int32)).toInt := fun z => hq576 (Int32.toInt_inj.mp z)
          have i_hq577 : (((196 : Int32) + ((a &&& (2147483647 : Int32)) % (13 : Int32)))).toInt = ((202 : Int32)).toInt := congrArg Int32.toInt hq577
          have i_hc130 : ((1 : Int32)).toInt = ((1 : Int32)).toInt := congrArg Int32.toInt hc130
          have i_hc137 : ¬ ((1 : Int32)).toInt = ((0 : Int32)).toInt := fun z => hc137 (Int32.toInt_inj.mp z)
          have r2 := rng32 sel
          have e1 : ((sel &&& (1 : Int32))).toInt = (sel).toInt % 2 := c_mask sel (1 : Int32) 1 (by decide) (by decide)
          have e3 : (0 : Int32).toInt = 0 := rfl
          have r4 := rng32 cs
          have e5 : (255 : Int32).toInt = 255 := rfl
          have r9 := rng32 c1
          have e8 : ((c1 &&& (255 : Int32))).toInt = (c1).toInt % 256 := c_mask c1 (255 : Int32) 8 (by decide) (by decide)
          have e7 := c_i2c (c1 &&& (255 : Int32))
          have e6 : (((nar .char (((c1 &&& (255 : Int32))).toUInt32.toUInt16.toUInt32.toInt32))).toInt - ((((c1 &&& (255 : Int32))).toUInt32.toUInt16.toUInt32.toInt32)).toInt) % 65536 = 0 ∧ 0 ≤ ((nar .char (((c1 &&& (255 : Int32))).toUInt32.toUInt16.toUInt32.toInt32))).toInt ∧ ((nar .char (((c1 &&& (255 : Int32))).toUInt32.toUInt16.toUInt32.toInt32))).toInt < 65536 := c_i2c (((c1 &&& (255 : Int32))).toUInt32.toUInt16.toUInt32.toInt32)
          have r13 := rng32 c2
          have e12 : ((c2 &&& (255 : Int32))).toInt = (c2).toInt % 256 := c_mask c2 (255 : Int32) 8 (by decide) (by decide)
          have e11 := c_i2c (c2 &&& (255 : Int32))
          have e10 : (((nar .char (((c2 &&& (255 : Int32))).toUInt32.toUInt16.toUInt32.toInt32))).toInt - ((((c2 &&& (255 : Int32))).toUInt32.toUInt16.toUInt32.toInt32)).toInt) % 65536 = 0 ∧ 0 ≤ ((nar .char (((c2 &&& (255 : Int32))).toUInt32.toUInt16.toUInt32.toInt32))).toInt ∧ ((nar .char (((c2 &&& (255 : Int32))).toUInt32.toUInt16.toUInt32.toInt32))).toInt < 65536 := c_i2c (((c2 &&& (255 : Int32))).toUInt32.toUInt16.toUInt32.toInt32)
          have e15 : (196 : Int32).toInt = 196 := rfl
          have r18 := rng32 a
          have e17 : ((a &&& (2147483647 : Int32))).toInt = (a).toInt % 2147483648 := c_mask a (2147483647 : Int32) 31 (by decide) (by decide)
          have e16 : (0 ≤ ((a &&& (2147483647 : Int32))).toInt → (((a &&& (2147483647 : Int32)) % (13 : Int32))).toInt = ((a &&& (2147483647 : Int32))).toInt % 13) ∧ (((a &&& (2147483647 : Int32))).toInt < 0 → (((a &&& (2147483647 : Int32)) % (13 : Int32))).toInt = -((-((a &&& (2147483647 : Int32))).toInt) % 13)) := c_irem (a &&& (2147483647 : Int32)) (13 : Int32) 13 rfl
          have e14 := c_iadd (196 : Int32) ((a &&& (2147483647 : Int32)) % (13 : Int32))
          have r14 := rng32 ((196 : Int32) + ((a &&& (2147483647 : Int32)) % (13 : Int32)))
          have e19 : (200 : Int32).toInt = 200 := rfl
          have e20 : (204 : Int32).toInt = 204 := rfl
          have e22 := c_i2l ((196 : Int32) + ((a &&& (2147483647 : Int32)) % (13 : Int32)))
          have e23 : (200 : Int64).toInt = 200 := rfl
          have e21 := c_lsub ((((196 : Int32) + ((a &&& (2147483647 : Int32)) % (13 : Int32)))).toInt64) (200 : Int64)
          have r21 := rng64 (((((196 : Int32) + ((a &&& (2147483647 : Int32)) % (13 : Int32)))).toInt64) - (200 : Int64))
          have e24 : (0 : Int64).toInt = 0 := rfl
          have e25 : (201 : Int32).toInt = 201 := rfl
          have e26 : (202 : Int32).toInt = 202 := rfl
          have e27 : (1 : Int32).toInt = 1 := rfl
          omega
        · refine G.cast (st' := [(.int (1 : Int32)), (.int (1 : Int32))]) ?_ rfl
          refine g_icmp_ne cx d0_130 (fun q => absurd q (fun q => by revert q; decide)) (fun hc130 => ?_)
          refine g_iload cx d0_133 rfl ?_
          refine g_iload cx d0_135 rfl ?_
          refine g_icmp_ne cx d0_137 (fun hc137 => ?_) (fun q => absurd q (fun q => by revert q; decide))
          refine g_iconst cx d0_144 (v := (0 : Int32)) rfl ?_
          refine g_retZ cx d0_145 rfl rfl (by decide) (by decide) ?_
          exfalso
          have i_hc3 : ¬ ((sel &&& (1 : Int32))).toInt = ((0 : Int32)).toInt := fun z => hc3 (Int32.toInt_inj.mp z)
          have i_hq361 : ¬ (cs).toInt = ((0 : Int32)).toInt := fun z => hq361 (Int32.toInt_inj.mp z)
          have i_hq362 : ¬ ((255 : Int32)).toInt < ((nar .char (((c1 &&& (255 : Int32))).toUInt32.toUInt16.toUInt32.toInt32))).toInt := fun z => hq362 (Int32.lt_iff_toInt_lt.mpr z)
          have i_hq375 : ¬ (cs).toInt = ((0 : Int32)).toInt := fun z => hq375 (Int32.toInt_inj.mp z)
          have i_hq376 : ¬ ((255 : Int32)).toInt < ((nar .char (((c2 &&& (255 : Int32))).toUInt32.toUInt16.toUInt32.toInt32))).toInt := fun z => hq376 (Int32.lt_iff_toInt_lt.mpr z)
          have i_hq390 : ¬ (((196 : Int32) + ((a &&& (2147483647 : Int32)) % (13 : Int32)))).toInt < ((200 : Int32)).toInt := fun z => hq390 (Int32.lt_iff_toInt_lt.mpr z)
          have i_hq391 : ¬ ((204 : Int32)).toInt < (((196 : Int32) + ((a &&& (2147483647 : Int32)) % (13 : Int32)))).toInt := fun z => hq391 (Int32.lt_iff_toInt_lt.mpr z)
          have i_hc104 : ((((((196 : Int32) + ((a &&& (2147483647 : Int32)) % (13 : Int32)))).toInt64) - (200 : Int64))).toInt < ((0 : Int64)).toInt := Int64.lt_iff_toInt_lt.mp hc104
          have i_hq579 : ¬ (((196 : Int32) + ((a &&& (2147483647 : Int32)) % (13 : Int32)))).toInt = ((200 : Int32)).toInt := fun z => hq579 (Int32.toInt_inj.mp z)
          have i_hq580 : ¬ (((196 : Int32) + ((a &&& (2147483647 : Int32)) % (13 : Int32)))).toInt = ((201 : Int32)).toInt := fun z => hq580 (Int32.toInt_inj.mp z)
          have i_hq581 : ¬ (((196 : Int32) + ((a &&& (2147483647 : Int32)) % (13 : Int32)))).toInt = ((202 : Int32)).toInt := fun z => hq581 (Int32.toInt_inj.mp z)
          have i_hq582 : (((196 : Int32) + ((a &&& (2147483647 : Int32)) % (13 : Int32)))).toInt = ((203 : Int32)).toInt := congrArg Int32.toInt hq582
          have i_hc130 : ((1 : Int32)).toInt = ((1 : Int32)).toInt := congrArg Int32.toInt hc130
          have i_hc137 : ¬ ((1 : Int32)).toInt = ((0 : Int32)).toInt := fun z => hc137 (Int32.toInt_inj.mp z)
          have r2 := rng32 sel
          have e1 : ((sel &&& (1 : Int32))).toInt = (sel).toInt % 2 := c_mask sel (1 : Int32) 1 (by decide) (by decide)
          have e3 : (0 : Int32).toInt = 0 := rfl
          have r4 := rng32 cs
          have e5 : (255 : Int32).toInt = 255 := rfl
          have r9 := rng32 c1
          have e8 : ((c1 &&& (255 : Int32))).toInt = (c1).toInt % 256 := c_mask c1 (255 : Int32) 8 (by decide) (by decide)
          have e7 := c_i2c (c1 &&& (255 : Int32))
          have e6 : (((nar .char (((c1 &&& (255 : Int32))).toUInt32.toUInt16.toUInt32.toInt32))).toInt - ((((c1 &&& (255 : Int32))).toUInt32.toUInt16.toUInt32.toInt32)).toInt) % 65536 = 0 ∧ 0 ≤ ((nar .char (((c1 &&& (255 : Int32))).toUInt32.toUInt16.toUInt32.toInt32))).toInt ∧ ((nar .char (((c1 &&& (255 : Int32))).toUInt32.toUInt16.toUInt32.toInt32))).toInt < 65536 := c_i2c (((c1 &&& (255 : Int32))).toUInt32.toUInt16.toUInt32.toInt32)
          have r13 := rng32 c2
          have e12 : ((c2 &&& (255 : Int32))).toInt = (c2).toInt % 256 := c_mask c2 (255 : Int32) 8 (by decide) (by decide)
          have e11 := c_i2c (c2 &&& (255 : Int32))
          have e10 : (((nar .char (((c2 &&& (255 : Int32))).toUInt32.toUInt16.toUInt32.toInt32))).toInt - ((((c2 &&& (255 : Int32))).toUInt32.toUInt16.toUInt32.toInt32)).toInt) % 65536 = 0 ∧ 0 ≤ ((nar .char (((c2 &&& (255 : Int32))).toUInt32.toUInt16.toUInt32.toInt32))).toInt ∧ ((nar .char (((c2 &&& (255 : Int32))).toUInt32.toUInt16.toUInt32.toInt32))).toInt < 65536 := c_i2c (((c2 &&& (255 : Int32))).toUInt32.toUInt16.toUInt32.toInt32)
          have e15 : (196 : Int32).toInt = 196 := rfl
          have r18 := rng32 a
          have e17 : ((a &&& (2147483647 : Int32))).toInt = (a).toInt % 2147483648 := c_mask a (2147483647 : Int32) 31 (by decide) (by decide)
          have e16 : (0 ≤ ((a &&& (2147483647 : Int32))).toInt → (((a &&& (2147483647 : Int32)) % (13 : Int32))).toInt = ((a &&& (2147483647 : Int32))).toInt % 13) ∧ (((a &&& (2147483647 : Int32))).toInt < 0 → (((a &&& (2147483647 : Int32)) % (13 : Int32))).toInt = -((-((a &&& (2147483647 : Int32))).toInt) % 13)) := c_irem (a &&& (2147483647 : Int32)) (13 : Int32) 13 rfl
          have e14 := c_iadd (196 : Int32) ((a &&& (2147483647 : Int32)) % (13 : Int32))
          have r14 := rng32 ((196 : Int32) + ((a &&& (2147483647 : Int32)) % (13 : Int32)))
          have e19 : (200 : Int32).toInt = 200 := rfl
          have e20 : (204 : Int32).toInt = 204 := rfl
          have e22 := c_i2l ((196 : Int32) + ((a &&& (2147483647 : Int32)) % (13 : Int32)))
          have e23 : (200 : Int64).toInt = 200 := rfl
          have e21 := c_lsub ((((196 : Int32) + ((a &&& (2147483647 : Int32)) % (13 : Int32)))).toInt64) (200 : Int64)
          have r21 := rng64 (((((196 : Int32) + ((a &&& (2147483647 : Int32)) % (13 : Int32)))).toInt64) - (200 : Int64))
          have e24 : (0 : Int64).toInt = 0 := rfl
          have e25 : (201 : Int32).toInt = 201 := rfl
          have e26 : (202 : Int32).toInt = 202 := rfl
          have e27 : (203 : Int32).toInt = 203 := rfl
          have e28 : (1 : Int32).toInt = 1 := rfl
          omega
        · refine G.cast (st' := [(.int (0 : Int32)), (.int (1 : Int32))]) ?_ rfl
          refine g_icmp_ne cx d0_130 (fun hc130 => ?_) (fun q => absurd q (fun q => by revert q; decide))
          refine g_iconst cx d0_144 (v := (0 : Int32)) rfl ?_
          refine g_retZ cx d0_145 rfl rfl (by decide) (by decide) ?_
          exfalso
          have i_hc3 : ¬ ((sel &&& (1 : Int32))).toInt = ((0 : Int32)).toInt := fun z => hc3 (Int32.toInt_inj.mp z)
          have i_hq361 : ¬ (cs).toInt = ((0 : Int32)).toInt := fun z => hq361 (Int32.toInt_inj.mp z)
          have i_hq362 : ¬ ((255 : Int32)).toInt < ((nar .char (((c1 &&& (255 : Int32))).toUInt32.toUInt16.toUInt32.toInt32))).toInt := fun z => hq362 (Int32.lt_iff_toInt_lt.mpr z)
          have i_hq375 : ¬ (cs).toInt = ((0 : Int32)).toInt := fun z => hq375 (Int32.toInt_inj.mp z)
          have i_hq376 : ¬ ((255 : Int32)).toInt < ((nar .char (((c2 &&& (255 : Int32))).toUInt32.toUInt16.toUInt32.toInt32))).toInt := fun z => hq376 (Int32.lt_iff_toInt_lt.mpr z)
          have i_hq390 : ¬ (((196 : Int32) + ((a &&& (2147483647 : Int32)) % (13 : Int32)))).toInt < ((200 : Int32)).toInt := fun z => hq390 (Int32.lt_iff_toInt_lt.mpr z)
          have i_hq391 : ¬ ((204 : Int32)).toInt < (((196 : Int32) + ((a &&& (2147483647 : Int32)) % (13 : Int32)))).toInt := fun z => hq391 (Int32.lt_iff_toInt_lt.mpr z)
          have i_hc104 : ((((((196 : Int32) + ((a &&& (2147483647 : Int32)) % (13 : Int32)))).toInt64) - (200 : Int64))).toInt < ((0 : Int64)).toInt := Int64.lt_iff_toInt_lt.mp hc104
          have i_hq584 : ¬ (((196 : Int32) + ((a &&& (2147483647 : Int32)) % (13 : Int32)))).toInt = ((200 : Int32)).toInt := fun z => hq584 (Int32.toInt_inj.mp z)
          have i_hq585 : ¬ (((196 : Int32) + ((a &&& (2147483647 : Int32)) % (13 : Int32)))).toInt = ((201 : Int32)).toInt := fun z => hq585 (Int32.toInt_inj.mp z)
          have i_hq586 : ¬ (((196 : Int32) + ((a &&& (2147483647 : Int32)) % (13 : Int32)))).toInt = ((202 : Int32)).toInt := fun z => hq586 (Int32.toInt_inj.mp z)
          have i_hq587 : ¬ (((196 : Int32) + ((a &&& (2147483647 : Int32)) % (13 : Int32)))).toInt = ((203 : Int32)).toInt := fun z => hq587 (Int32.toInt_inj.mp z)
          have i_hq588 : ¬ (((196 : Int32) + ((a &&& (2147483647 : Int32)) % (13 : Int32)))).toInt = ((204 : Int32)).toInt := fun z => hq588 (Int32.toInt_inj.mp z)
          have i_hc130 : ¬ ((1 : Int32)).toInt = ((0 : Int32)).toInt := fun z => hc130 (Int32.toInt_inj.mp z)
          have r2 := rng32 sel
          have e1 : ((sel &&& (1 : Int32))).toInt = (sel).toInt % 2 := c_mask sel (1 : Int32) 1 (by decide) (by decide)
          have e3 : (0 : Int32).toInt = 0 := rfl
          have r4 := rng32 cs
          have e5 : (255 : Int32).toInt = 255 := rfl
          have r9 := rng32 c1
          have e8 : ((c1 &&& (255 : Int32))).toInt = (c1).toInt % 256 := c_mask c1 (255 : Int32) 8 (by decide) (by decide)
          have e7 := c_i2c (c1 &&& (255 : Int32))
          have e6 : (((nar .char (((c1 &&& (255 : Int32))).toUInt32.toUInt16.toUInt32.toInt32))).toInt - ((((c1 &&& (255 : Int32))).toUInt32.toUInt16.toUInt32.toInt32)).toInt) % 65536 = 0 ∧ 0 ≤ ((nar .char (((c1 &&& (255 : Int32))).toUInt32.toUInt16.toUInt32.toInt32))).toInt ∧ ((nar .char (((c1 &&& (255 : Int32))).toUInt32.toUInt16.toUInt32.toInt32))).toInt < 65536 := c_i2c (((c1 &&& (255 : Int32))).toUInt32.toUInt16.toUInt32.toInt32)
          have r13 := rng32 c2
          have e12 : ((c2 &&& (255 : Int32))).toInt = (c2).toInt % 256 := c_mask c2 (255 : Int32) 8 (by decide) (by decide)
          have e11 := c_i2c (c2 &&& (255 : Int32))
          have e10 : (((nar .char (((c2 &&& (255 : Int32))).toUInt32.toUInt16.toUInt32.toInt32))).toInt - ((((c2 &&& (255 : Int32))).toUInt32.toUInt16.toUInt32.toInt32)).toInt) % 65536 = 0 ∧ 0 ≤ ((nar .char (((c2 &&& (255 : Int32))).toUInt32.toUInt16.toUInt32.toInt32))).toInt ∧ ((nar .char (((c2 &&& (255 : Int32))).toUInt32.toUInt16.toUInt32.toInt32))).toInt < 65536 := c_i2c (((c2 &&& (255 : Int32))).toUInt32.toUInt16.toUInt32.toInt32)
          have e15 : (196 : Int32).toInt = 196 := rfl
          have r18 := rng32 a
          have e17 : ((a &&& (2147483647 : Int32))).toInt = (a).toInt % 2147483648 := c_mask a (2147483647 : Int32) 31 (by decide) (by decide)
          have e16 : (0 ≤ ((a &&& (2147483647 : Int32))).toInt → (((a &&& (2147483647 : Int32)) % (13 : Int32))).toInt = ((a &&& (2147483647 : Int32))).toInt % 13) ∧ (((a &&& (2147483647 : Int32))).toInt < 0 → (((a &&& (2147483647 : Int32)) % (13 : Int32))).toInt = -((-((a &&& (2147483647 : Int32))).toInt) % 13)) := c_irem (a &&& (2147483647 : Int32)) (13 : Int32) 13 rfl
          have e14 := c_iadd (196 : Int32) ((a &&& (2147483647 : Int32)) % (13 : Int32))
          have r14 := rng32 ((196 : Int32) + ((a &&& (2147483647 : Int32)) % (13 : Int32)))
          have e19 : (200 : Int32).toInt = 200 := rfl
          have e20 : (204 : Int32).toInt = 204 := rfl
          have e22 := c_i2l ((196 : Int32) + ((a &&& (2147483647 : Int32)) % (13 : Int32)))
          have e23 : (200 : Int64).toInt = 200 := rfl
          have e21 := c_lsub ((((196 : Int32) + ((a &&& (2147483647 : Int32)) % (13 : Int32)))).toInt64) (200 : Int64)
          have r21 := rng64 (((((196 : Int32) + ((a &&& (2147483647 : Int32)) % (13 : Int32)))).toInt64) - (200 : Int64))
          have e24 : (0 : Int64).toInt = 0 := rfl
          have e25 : (201 : Int32).toInt = 201 := rfl
          have e26 : (202 : Int32).toInt = 202 := rfl
          have e27 : (203 : Int32).toInt = 203 := rfl
          have e28 : (1 : Int32).toInt = 1 := rfl
          omega
        · refine G.cast (st' := [(.int (1 : Int32)), (.int (1 : Int32))]) ?_ rfl
          refine g_icmp_ne cx d0_130 (fun q => absurd q (fun q => by revert q; decide)) (fun hc130 => ?_)
          refine g_iload cx d0_133 rfl ?_
          refine g_iload cx d0_135 rfl ?_
          refine g_icmp_ne cx d0_137 (fun hc137 => ?_) (fun q => absurd q (fun q => by revert q; decide))
          refine g_iconst cx d0_144 (v := (0 : Int32)) rfl ?_
          refine g_retZ cx d0_145 rfl rfl (by decide) (by decide) ?_
          exfalso
          have i_hc3 : ¬ ((sel &&& (1 : Int32))).toInt = ((0 : Int32)).toInt := fun z => hc3 (Int32.toInt_inj.mp z)
          have i_hq361 : ¬ (cs).toInt = ((0 : Int32)).toInt := fun z => hq361 (Int32.toInt_inj.mp z)
          have i_hq362 : ¬ ((255 : Int32)).toInt < ((nar .char (((c1 &&& (255 : Int32))).toUInt32.toUInt16.toUInt32.toInt32))).toInt := fun z => hq362 (Int32.lt_iff_toInt_lt.mpr z)
          have i_hq375 : ¬ (cs).toInt = ((0 : Int32)).toInt := fun z => hq375 (Int32.toInt_inj.mp z)
          have i_hq376 : ¬ ((255 : Int32)).toInt < ((nar .char (((c2 &&& (255 : Int32))).toUInt32.toUInt16.toUInt32.toInt32))).toInt := fun z => hq376 (Int32.lt_iff_toInt_lt.mpr z)
          have i_hq390 : ¬ (((196 : Int32) + ((a &&& (2147483647 : Int32)) % (13 : Int32)))).toInt < ((200 : Int32)).toInt := fun z => hq390 (Int32.lt_iff_toInt_lt.mpr z)
          have i_hq391 : ¬ ((204 : Int32)).toInt < (((196 : Int32) + ((a &&& (2147483647 : Int32)) % (13 : Int32)))).toInt := fun z => hq391 (Int32.lt_iff_toInt_lt.mpr z)
          have i_hc104 : ((((((196 : Int32) + ((a &&& (2147483647 : Int32)) % (13 : Int32)))).toInt64) - (200 : Int64))).toInt < ((0 : Int64)).toInt := Int64.lt_iff_toInt_lt.mp hc104
          have i_hq590 : ¬ (((196 : Int32) + ((a &&& (2147483647 : Int32)) % (13 : Int32)))).toInt = ((200 : Int32)).toInt := fun z => hq590 (Int32.toInt_inj.mp z)
          have i_hq591 : ¬ (((196 : Int32) + ((a &&& (2147483647 : Int32)) % (13 : Int32)))).toInt = ((201 : Int32)).toInt := fun z => hq591 (Int32.toInt_inj.mp z)
          have i_hq592 : ¬ (((196 : Int32) + ((a &&& (2147483647 : Int32)) % (13 : Int32)))).toInt = ((202 : Int32)).toInt := fun z => hq592 (Int32.toInt_inj.mp z)
          have i_hq593 : ¬ (((196 : Int32) + ((a &&& (2147483647 : Int32)) % (13 : Int32)))).toInt = ((203 : Int32)).toInt := fun z => hq593 (Int32.toInt_inj.mp z)
          have i_hq594 : (((196 : Int32) + ((a &&& (2147483647 : Int32)) % (13 : Int32)))).toInt = ((204 : Int32)).toInt := congrArg Int32.toInt hq594
          have i_hc130 : ((1 : Int32)).toInt = ((1 : Int32)).toInt := congrArg Int32.toInt hc130
          have i_hc137 : ¬ ((1 : Int32)).toInt = ((0 : Int32)).toInt := fun z => hc137 (Int32.toInt_inj.mp z)
          have r2 := rng32 sel
          have e1 : ((sel &&& (1 : Int32))).toInt = (sel).toInt % 2 := c_mask sel (1 : Int32) 1 (by decide) (by decide)
          have e3 : (0 : Int32).toInt = 0 := rfl
          have r4 := rng32 cs
          have e5 : (255 : Int32).toInt = 255 := rfl
          have r9 := rng32 c1
          have e8 : ((c1 &&& (255 : Int32))).toInt = (c1).toInt % 256 := c_mask c1 (255 : Int32) 8 (by decide) (by decide)
          have e7 := c_i2c (c1 &&& (255 : Int32))
          have e6 : (((nar .char (((c1 &&& (255 : Int32))).toUInt32.toUInt16.toUInt32.toInt32))).toInt - ((((c1 &&& (255 : Int32))).toUInt32.toUInt16.toUInt32.toInt32)).toInt) % 65536 = 0 ∧ 0 ≤ ((nar .char (((c1 &&& (255 : Int32))).toUInt32.toUInt16.toUInt32.toInt32))).toInt ∧ ((nar .char (((c1 &&& (255 : Int32))).toUInt32.toUInt16.toUInt32.toInt32))).toInt < 65536 := c_i2c (((c1 &&& (255 : Int32))).toUInt32.toUInt16.toUInt32.toInt32)
          have r13 := rng32 c2
          have e12 : ((c2 &&& (255 : Int32))).toInt = (c2).toInt % 256 := c_mask c2 (255 : Int32) 8 (by decide) (by decide)
          have e11 := c_i2c (c2 &&& (255 : Int32))
          have e10 : (((nar .char (((c2 &&& (255 : Int32))).toUInt32.toUInt16.toUInt32.toInt32))).toInt - ((((c2 &&& (255 : Int32))).toUInt32.toUInt16.toUInt32.toInt32)).toInt) % 65536 = 0 ∧ 0 ≤ ((nar .char (((c2 &&& (255 : Int32))).toUInt32.toUInt16.toUInt32.toInt32))).toInt ∧ ((nar .char (((c2 &&& (255 : Int32))).toUInt32.toUInt16.toUInt32.toInt32))).toInt < 65536 := c_i2c (((c2 &&& (255 : Int32))).toUInt32.toUInt16.toUInt32.toInt32)
          have e15 : (196 : Int32).toInt = 196 := rfl
          have r18 := rng32 a
          have e17 : ((a &&& (2147483647 : Int32))).toInt = (a).toInt % 2147483648 := c_mask a (2147483647 : Int32) 31 (by decide) (by decide)
          have e16 : (0 ≤ ((a &&& (2147483647 : Int32))).toInt → (((a &&& (2147483647 : Int32)) % (13 : Int32))).toInt = ((a &&& (2147483647 : Int32))).toInt % 13) ∧ (((a &&& (2147483647 : Int32))).toInt < 0 → (((a &&& (2147483647 : Int32)) % (13 : Int32))).toInt = -((-((a &&& (2147483647 : Int32))).toInt) % 13)) := c_irem (a &&& (2147483647 : Int32)) (13 : Int32) 13 rfl
          have e14 := c_iadd (196 : Int32) ((a &&& (2147483647 : Int32)) % (13 : Int32))
          have r14 := rng32 ((196 : Int32) + ((a &&& (2147483647 : Int32)) % (13 : Int32)))
          have e19 : (200 : Int32).toInt = 200 := rfl
          have e20 : (204 : Int32).toInt = 204 := rfl
          have e22 := c_i2l ((196 : Int32) + ((a &&& (2147483647 : Int32)) % (13 : Int32)))
          have e23 : (200 : Int64).toInt = 200 := rfl
          have e21 := c_lsub ((((196 : Int32) + ((a &&& (2147483647 : Int32)) % (13 : Int32)))).toInt64) (200 : Int64)
          have r21 := rng64 (((((196 : Int32) + ((a &&& (2147483647 : Int32)) % (13 : Int32)))).toInt64) - (200 : Int64))
          have e24 : (0 : Int64).toInt = 0 := rfl
          have e25 : (201 : Int32).toInt = 201 := rfl
          have e26 : (202 : Int32).toInt = 202 := rfl
          have e27 : (203 : Int32).toInt = 203 := rfl
          have e28 : (1 : Int32).toInt = 1 := rfl
          omega
      · refine g_lload cx d0_107 rfl ?_
        refine g_ldcJ cx d0_109 (hw _ (List.mem_of_getElem? (i := 59) rfl)) ?_
        refine g_lif_gt cx d0_112 d0_113 (fun hc113 => ?_) (fun hc113 => ?_)
        · refine g_iconst cx d0_120 (v := (0 : Int32)) rfl ?_
          refine g_istore cx d0_121 (Ls' := #[.val (.int a), .val (.int sel), .val (.int c1), .val (.int c2), .val (.int ((196 : Int32) + ((a &&& (2147483647 : Int32)) % (13 : Int32)))), .val (.ref b330), .val (.ref b339), .val (.ref b348), .val (.int (1 : Int32)), .val (.long (((((196 : Int32) + ((a &&& (2147483647 : Int32)) % (13 : Int32)))).toInt64) - (200 : Int64))), .second, .val (.int (0 : Int32))]) rfl ?_
          refine g_iload cx d0_123 rfl ?_
          refine g_iload cx d0_125 rfl ?_
          refine g_static cx (y := (⟨"com/example/egret/egret/service/OutcomeDeliveredPinLaw", "isSuccessStatus", "(I)Z"⟩ : MethodName)) d0_127 (hw _ (List.mem_of_getElem? (i := 55) rfl)) (hw _ (List.mem_of_getElem? (i := 56) rfl)) (hw _ (List.mem_of_getElem? (i := 57) rfl)) (hw _ (List.mem_of_getElem? (i := 58) rfl)) (by decide) (bytes := method_2_code) (maxL' := 1) (M := (ra8 l Z a0 hw ((196 : Int32) + ((a &&& (2147483647 : Int32)) % (13 : Int32))) _  OL cs SCS ncs)) rfl (lenOf pd_8 rfl) (by decide) (W := 1) (Nat.le_of_eq rfl) (by decide) (k' := 7) (n' := 15) rfl rfl (by decide) (by decide) (argsL := [(.int ((196 : Int32) + ((a &&& (2147483647 : Int32)) % (13 : Int32))))]) (rest := [(.int (1 : Int32))]) rfl (fun v626 h625 q627 => ?_)
          rcases q627 with ⟨hq599, rfl, rfl⟩ | ⟨hq601, hq602, rfl, rfl⟩ | ⟨hq604, hq605, hq606, rfl, rfl⟩ | ⟨hq608, hq609, hq610, hq611, rfl, rfl⟩ | ⟨hq613, hq614, hq615, hq616, hq617, rfl, rfl⟩ | ⟨hq619, hq620, hq621, hq622, hq623, rfl, rfl⟩
          · refine G.cast (st' := [(.int (1 : Int32)), (.int (1 : Int32))]) ?_ rfl
            refine g_icmp_ne cx d0_130 (fun q => absurd q (fun q => by revert q; decide)) (fun hc130 => ?_)
            refine g_iload cx d0_133 rfl ?_
            refine g_iload cx d0_135 rfl ?_
            refine g_icmp_ne cx d0_137 (fun hc137 => ?_) (fun q => absurd q (fun q => by revert q; decide))
            refine g_iconst cx d0_144 (v := (0 : Int32)) rfl ?_
            refine g_retZ cx d0_145 rfl rfl (by decide) (by decide) ?_
            exfalso
            have i_hc3 : ¬ ((sel &&& (1 : Int32))).toInt = ((0 : Int32)).toInt := fun z => hc3 (Int32.toInt_inj.mp z)
            have i_hq361 : ¬ (cs).toInt = ((0 : Int32)).toInt := fun z => hq361 (Int32.toInt_inj.mp z)
            have i_hq362 : ¬ ((255 : Int32)).toInt < ((nar .char (((c1 &&& (255 : Int32))).toUInt32.toUInt16.toUInt32.toInt32))).toInt := fun z => hq362 (Int32.lt_iff_toInt_lt.mpr z)
            have i_hq375 : ¬ (cs).toInt = ((0 : Int32)).toInt := fun z => hq375 (Int32.toInt_inj.mp z)
            have i_hq376 : ¬ ((255 : Int32)).toInt < ((nar .char (((c2 &&& (255 : Int32))).toUInt32.toUInt16.toUInt32.toInt32))).toInt := fun z => hq376 (Int32.lt_iff_toInt_lt.mpr z)
            have i_hq390 : ¬ (((196 : Int32) + ((a &&& (2147483647 : Int32)) % (13 : Int32)))).toInt < ((200 : Int32)).toInt := fun z => hq390 (Int32.lt_iff_toInt_lt.mpr z)
            have i_hq391 : ¬ ((204 : Int32)).toInt < (((196 : Int32) + ((a &&& (2147483647 : Int32)) % (13 : Int32)))).toInt := fun z => hq391 (Int32.lt_iff_toInt_lt.mpr z)
            have i_hc104 : ¬ ((((((196 : Int32) + ((a &&& (2147483647 : Int32)) % (13 : Int32)))).toInt64) - (200 : Int64))).toInt < ((0 : Int64)).toInt := fun z => hc104 (Int64.lt_iff_toInt_lt.mpr z)
            have i_hc113 : ((4 : Int64)).toInt < ((((((196 : Int32) + ((a &&& (2147483647 : Int32)) % (13 : Int32)))).toInt64) - (200 : Int64))).toInt := Int64.lt_iff_toInt_lt.mp hc113
            have i_hq599 : (((196 : Int32) + ((a &&& (2147483647 : Int32)) % (13 : Int32)))).toInt = ((200 : Int32)).toInt := congrArg Int32.toInt hq599
            have i_hc130 : ((1 : Int32)).toInt = ((1 : Int32)).toInt := congrArg Int32.toInt hc130
            have i_hc137 : ¬ ((1 : Int32)).toInt = ((0 : Int32)).toInt := fun z => hc137 (Int32.toInt_inj.mp z)
            have r2 := rng32 sel
            have e1 : ((sel &&& (1 : Int32))).toInt = (sel).toInt % 2 := c_mask sel (1 : Int32) 1 (by decide) (by decide)
            have e3 : (0 : Int32).toInt = 0 := rfl
            have r4 := rng32 cs
            have e5 : (255 : Int32).toInt = 255 := rfl
            have r9 := rng32 c1
            have e8 : ((c1 &&& (255 : Int32))).toInt = (c1).toInt % 256 := c_mask c1 (255 : Int32) 8 (by decide) (by decide)
            have e7 := c_i2c (c1 &&& (255 : Int32))
            have e6 : (((nar .char (((c1 &&& (255 : Int32))).toUInt32.toUInt16.toUInt32.toInt32))).toInt - ((((c1 &&& (255 : Int32))).toUInt32.toUInt16.toUInt32.toInt32)).toInt) % 65536 = 0 ∧ 0 ≤ ((nar .char (((c1 &&& (255 : Int32))).toUInt32.toUInt16.toUInt32.toInt32))).toInt ∧ ((nar .char (((c1 &&& (255 : Int32))).toUInt32.toUInt16.toUInt32.toInt32))).toInt < 65536 := c_i2c (((c1 &&& (255 : Int32))).toUInt32.toUInt16.toUInt32.toInt32)
            have r13 := rng32 c2
            have e12 : ((c2 &&& (255 : Int32))).toInt = (c2).toInt % 256 := c_mask c2 (255 : Int32) 8 (by decide) (by decide)
            have e11 := c_i2c (c2 &&& (255 : Int32))
            have e10 : (((nar .char (((c2 &&& (255 : Int32))).toUInt32.toUInt16.toUInt32.toInt32))).toInt - ((((c2 &&& (255 : Int32))).toUInt32.toUInt16.toUInt32.toInt32)).toInt) % 65536 = 0 ∧ 0 ≤ ((nar .char (((c2 &&& (255 : Int32))).toUInt32.toUInt16.toUInt32.toInt32))).toInt ∧ ((nar .char (((c2 &&& (255 : Int32))).toUInt32.toUInt16.toUInt32.toInt32))).toInt < 65536 := c_i2c (((c2 &&& (255 : Int32))).toUInt32.toUInt16.toUInt32.toInt32)
            have e15 : (196 : Int32).toInt = 196 := rfl
            have r18 := rng32 a
            have e17 : ((a &&& (2147483647 : Int32))).toInt = (a).toInt % 2147483648 := c_mask a (2147483647 : Int32) 31 (by decide) (by decide)
            have e16 : (0 ≤ ((a &&& (2147483647 : Int32))).toInt → (((a &&& (2147483647 : Int32)) % (13 : Int32))).toInt = ((a &&& (2147483647 : Int32))).toInt % 13) ∧ (((a &&& (2147483647 : Int32))).toInt < 0 → (((a &&& (2147483647 : Int32)) % (13 : Int32))).toInt = -((-((a &&& (2147483647 : Int32))).toInt) % 13)) := c_irem (a &&& (2147483647 : Int32)) (13 : Int32) 13 rfl
            have e14 := c_iadd (196 : Int32) ((a &&& (2147483647 : Int32)) % (13 : Int32))
            have r14 := rng32 ((196 : Int32) + ((a &&& (2147483647 : Int32)) % (13 : Int32)))
            have e19 : (200 : Int32).toInt = 200 := rfl
            have e20 : (204 : Int32).toInt = 204 := rfl
            have e22 := c_i2l ((196 : Int32) + ((a &&& (2147483647 : Int32)) % (13 : Int32)))
            have e23 : (200 : Int64).toInt = 200 := rfl
            have e21 := c_lsub ((((196 : Int32) + ((a &&& (2147483647 : Int32)) % (13 : Int32)))).toInt64) (200 : Int64)
            have r21 := rng64 (((((196 : Int32) + ((a &&& (2147483647 : Int32)) % (13 : Int32)))).toInt64) - (200 : Int64))
            have e24 : (0 : Int64).toInt = 0 := rfl
            have e25 : (4 : Int64).toInt = 4 := rfl
            have e26 : (1 : Int32).toInt = 1 := rfl
            omega
          · refine G.cast (st' := [(.int (1 : Int32)), (.int (1 : Int32))]) ?_ rfl
            refine g_icmp_ne cx d0_130 (fun q => absurd q (fun q => by revert q; decide)) (fun hc130 => ?_)
            refine g_iload cx d0_133 rfl ?_
            refine g_iload cx d0_135 rfl ?_
            refine g_icmp_ne cx d0_137 (fun hc137 => ?_) (fun q => absurd q (fun q => by revert q; decide))
            refine g_iconst cx d0_144 (v := (0 : Int32)) rfl ?_
            refine g_retZ cx d0_145 rfl rfl (by decide) (by decide) ?_
            exfalso
            have i_hc3 : ¬ ((sel &&& (1 : Int32))).toInt = ((0 : Int32)).toInt := fun z => hc3 (Int32.toInt_inj.mp z)
            have i_hq361 : ¬ (cs).toInt = ((0 : Int32)).toInt := fun z => hq361 (Int32.toInt_inj.mp z)
            have i_hq362 : ¬ ((255 : Int32)).toInt < ((nar .char (((c1 &&& (255 : Int32))).toUInt32.toUInt16.toUInt32.toInt32))).toInt := fun z => hq362 (Int32.lt_iff_toInt_lt.mpr z)
            have i_hq375 : ¬ (cs).toInt = ((0 : Int32)).toInt := fun z => hq375 (Int32.toInt_inj.mp z)
            have i_hq376 : ¬ ((255 : Int32)).toInt < ((nar .char (((c2 &&& (255 : Int32))).toUInt32.toUInt16.toUInt32.toInt32))).toInt := fun z => hq376 (Int32.lt_iff_toInt_lt.mpr z)
            have i_hq390 : ¬ (((196 : Int32) + ((a &&& (2147483647 : Int32)) % (13 : Int32)))).toInt < ((200 : Int32)).toInt := fun z => hq390 (Int32.lt_iff_toInt_lt.mpr z)
            have i_hq391 : ¬ ((204 : Int32)).toInt < (((196 : Int32) + ((a &&& (2147483647 : Int32)) % (13 : Int32)))).toInt := fun z => hq391 (Int32.lt_iff_toInt_lt.mpr z)
            have i_hc104 : ¬ ((((((196 : Int32) + ((a &&& (2147483647 : Int32)) % (13 : Int32)))).toInt64) - (200 : Int64))).toInt < ((0 : Int64)).toInt := fun z => hc104 (Int64.lt_iff_toInt_lt.mpr z)
            have i_hc113 : ((4 : Int64)).toInt < ((((((196 : Int32) + ((a &&& (2147483647 : Int32)) % (13 : Int32)))).toInt64) - (200 : Int64))).toInt := Int64.lt_iff_toInt_lt.mp hc113
            have i_hq601 : ¬ (((196 : Int32) + ((a &&& (2147483647 : Int32)) % (13 : Int32)))).toInt = ((200 : Int32)).toInt := fun z => hq601 (Int32.toInt_inj.mp z)
            have i_hq602 : (((196 : Int32) + ((a &&& (2147483647 : Int32)) % (13 : Int32)))).toInt = ((201 : Int32)).toInt := congrArg Int32.toInt hq602
            have i_hc130 : ((1 : Int32)).toInt = ((1 : Int32)).toInt := congrArg Int32.toInt hc130
            have i_hc137 : ¬ ((1 : Int32)).toInt = ((0 : Int32)).toInt := fun z => hc137 (Int32.toInt_inj.mp z)
            have r2 := rng32 sel
            have e1 : ((sel &&& (1 : Int32))).toInt = (sel).toInt % 2 := c_mask sel (1 : Int32) 1 (by decide) (by decide)
            have e3 : (0 : Int32).toInt = 0 := rfl
            have r4 := rng32 cs
            have e5 : (255 : Int32).toInt = 255 := rfl
            have r9 := rng32 c1
            have e8 : ((c1 &&& (255 : Int32))).toInt = (c1).toInt % 256 := c_mask c1 (255 : Int32) 8 (by decide) (by decide)
            have e7 := c_i2c (c1 &&& (255 : Int32))
            have e6 : (((nar .char (((c1 &&& (255 : Int32))).toUInt32.toUInt16.toUInt32.toInt32))).toInt - ((((c1 &&& (255 : Int32))).toUInt32.toUInt16.toUInt32.toInt32)).toInt) % 65536 = 0 ∧ 0 ≤ ((nar .char (((c1 &&& (255 : Int32))).toUInt32.toUInt16.toUInt32.toInt32))).toInt ∧ ((nar .char (((c1 &&& (255 : Int32))).toUInt32.toUInt16.toUInt32.toInt32))).toInt < 65536 := c_i2c (((c1 &&& (255 : Int32))).toUInt32.toUInt16.toUInt32.toInt32)
            have r13 := rng32 c2
            have e12 : ((c2 &&& (255 : Int32))).toInt = (c2).toInt % 256 := c_mask c2 (255 : Int32) 8 (by decide) (by decide)
            have e11 := c_i2c (c2 &&& (255 : Int32))
            have e10 : (((nar .char (((c2 &&& (255 : Int32))).toUInt32.toUInt16.toUInt32.toInt32))).toInt - ((((c2 &&& (255 : Int32))).toUInt32.toUInt16.toUInt32.toInt32)).toInt) % 65536 = 0 ∧ 0 ≤ ((nar .char (((c2 &&& (255 : Int32))).toUInt32.toUInt16.toUInt32.toInt32))).toInt ∧ ((nar .char (((c2 &&& (255 : Int32))).toUInt32.toUInt16.toUInt32.toInt32))).toInt < 65536 := c_i2c (((c2 &&& (255 : Int32))).toUInt32.toUInt16.toUInt32.toInt32)
            have e15 : (196 : Int32).toInt = 196 := rfl
            have r18 := rng32 a
            have e17 : ((a &&& (2147483647 : Int32))).toInt = (a).toInt % 2147483648 := c_mask a (2147483647 : Int32) 31 (by decide) (by decide)
            have e16 : (0 ≤ ((a &&& (2147483647 : Int32))).toInt → (((a &&& (2147483647 : Int32)) % (13 : Int32))).toInt = ((a &&& (2147483647 : Int32))).toInt % 13) ∧ (((a &&& (2147483647 : Int32))).toInt < 0 → (((a &&& (2147483647 : Int32)) % (13 : Int32))).toInt = -((-((a &&& (2147483647 : Int32))).toInt) % 13)) := c_irem (a &&& (2147483647 : Int32)) (13 : Int32) 13 rfl
            have e14 := c_iadd (196 : Int32) ((a &&& (2147483647 : Int32)) % (13 : Int32))
            have r14 := rng32 ((196 : Int32) + ((a &&& (2147483647 : Int32)) % (13 : Int32)))
            have e19 : (200 : Int32).toInt = 200 := rfl
            have e20 : (204 : Int32).toInt = 204 := rfl
            have e22 := c_i2l ((196 : Int32) + ((a &&& (2147483647 : Int32)) % (13 : Int32)))
            have e23 : (200 : Int64).toInt = 200 := rfl
            have e21 := c_lsub ((((196 : Int32) + ((a &&& (2147483647 : Int32)) % (13 : Int32)))).toInt64) (200 : Int64)
            have r21 := rng64 (((((196 : Int32) + ((a &&& (2147483647 : Int32)) % (13 : Int32)))).toInt64) - (200 : Int64))
            have e24 : (0 : Int64).toInt = 0 := rfl
            have e25 : (4 : Int64).toInt = 4 := rfl
            have e26 : (201 : Int32).toInt = 201 := rfl
            have e27 : (1 : Int32).toInt = 1 := rfl
            omega
          · refine G.cast (st' := [(.int (1 : Int32)), (.int (1 : Int32))]) ?_ rfl
            refine g_icmp_ne cx d0_130 (fun q => absurd q (fun q => by revert q; decide)) (fun hc130 => ?_)
            refine g_iload cx d0_133 rfl ?_
            refine g_iload cx d0_135 rfl ?_
            refine g_icmp_ne cx d0_137 (fun hc137 => ?_) (fun q => absurd q (fun q => by revert q; decide))
            refine g_iconst cx d0_144 (v := (0 : Int32)) rfl ?_
            refine g_retZ cx d0_145 rfl rfl (by decide) (by decide) ?_
            exfalso
            have i_hc3 : ¬ ((sel &&& (1 : Int32))).toInt = ((0 : Int32)).toInt := fun z => hc3 (Int32.toInt_inj.mp z)
            have i_hq361 : ¬ (cs).toInt = ((0 : Int32)).toInt := fun z => hq361 (Int32.toInt_inj.mp z)
            have i_hq362 : ¬ ((255 : Int32)).toInt < ((nar .char (((c1 &&& (255 : Int32))).toUInt32.toUInt16.toUInt32.toInt32))).toInt := fun z => hq362 (Int32.lt_iff_toInt_lt.mpr z)
            have i_hq375 : ¬ (cs).toInt = ((0 : Int32)).toInt := fun z => hq375 (Int32.toInt_inj.mp z)
            have i_hq376 : ¬ ((255 : Int32)).toInt < ((nar .char (((c2 &&& (255 : Int32))).toUInt32.toUInt16.toUInt32.toInt32))).toInt := fun z => hq376 (Int32.lt_iff_toInt_lt.mpr z)
            have i_hq390 : ¬ (((196 : Int32) + ((a &&& (2147483647 : Int32)) % (13 : Int32)))).toInt < ((200 : Int32)).toInt := fun z => hq390 (Int32.lt_iff_toInt_lt.mpr z)
            have i_hq391 : ¬ ((204 : Int32)).toInt < (((196 : Int32) + ((a &&& (2147483647 : Int32)) % (13 : Int32)))).toInt := fun z => hq391 (Int32.lt_iff_toInt_lt.mpr z)
            have i_hc104 : ¬ ((((((196 : Int32) + ((a &&& (2147483647 : Int32)) % (13 : Int32)))).toInt64) - (200 : Int64))).toInt < ((0 : Int64)).toInt := fun z => hc104 (Int64.lt_iff_toInt_lt.mpr z)
            have i_hc113 : ((4 : Int64)).toInt < ((((((196 : Int32) + ((a &&& (2147483647 : Int32)) % (13 : Int32)))).toInt64) - (200 : Int64))).toInt := Int64.lt_iff_toInt_lt.mp hc113
            have i_hq604 : ¬ (((196 : Int32) + ((a &&& (2147483647 : Int32)) % (13 : Int32)))).toInt = ((200 : Int32)).toInt := fun z => hq604 (Int32.toInt_inj.mp z)
            have i_hq605 : ¬ (((196 : Int32) + ((a &&& (2147483647 : Int32)) % (13 : Int32)))).toInt = ((201 : Int32)).toInt := fun z => hq605 (Int32.toInt_inj.mp z)
            have i_hq606 : (((196 : Int32) + ((a &&& (2147483647 : Int32)) % (13 : Int32)))).toInt = ((202 : Int32)).toInt := congrArg Int32.toInt hq606
            have i_hc130 : ((1 : Int32)).toInt = ((1 : Int32)).toInt := congrArg Int32.toInt hc130
            have i_hc137 : ¬ ((1 : Int32)).toInt = ((0 : Int32)).toInt := fun z => hc137 (Int32.toInt_inj.mp z)
            have r2 := rng32 sel
            have e1 : ((sel &&& (1 : Int32))).toInt = (sel).toInt % 2 := c_mask sel (1 : Int32) 1 (by decide) (by decide)
            have e3 : (0 : Int32).toInt = 0 := rfl
            have r4 := rng32 cs
            have e5 : (255 : Int32).toInt = 255 := rfl
            have r9 := rng32 c1
            have e8 : ((c1 &&& (255 : Int32))).toInt = (c1).toInt % 256 := c_mask c1 (255 : Int32) 8 (by decide) (by decide)
            have e7 := c_i2c (c1 &&& (255 : Int32))
            have e6 : (((nar .char (((c1 &&& (255 : Int32))).toUInt32.toUInt16.toUInt32.toInt32))).toInt - ((((c1 &&& (255 : Int32))).toUInt32.toUInt16.toUInt32.toInt32)).toInt) % 65536 = 0 ∧ 0 ≤ ((nar .char (((c1 &&& (255 : Int32))).toUInt32.toUInt16.toUInt32.toInt32))).toInt ∧ ((nar .char (((c1 &&& (255 : Int32))).toUInt32.toUInt16.toUInt32.toInt32))).toInt < 65536 := c_i2c (((c1 &&& (255 : Int32))).toUInt32.toUInt16.toUInt32.toInt32)
            have r13 := rng32 c2
            have e12 : ((c2 &&& (255 : Int32))).toInt = (c2).toInt % 256 := c_mask c2 (255 : Int32) 8 (by decide) (by decide)
            have e11 := c_i2c (c2 &&& (255 : Int32))
            have e10 : (((nar .char (((c2 &&& (255 : Int32))).toUInt32.toUInt16.toUInt32.toInt32))).toInt - ((((c2 &&& (255 : Int32))).toUInt32.toUInt16.toUInt32.toInt32)).toInt) % 65536 = 0 ∧ 0 ≤ ((nar .char (((c2 &&& (255 : Int32))).toUInt32.toUInt16.toUInt32.toInt32))).toInt ∧ ((nar .char (((c2 &&& (255 : Int32))).toUInt32.toUInt16.toUInt32.toInt32))).toInt < 65536 := c_i2c (((c2 &&& (255 : Int32))).toUInt32.toUInt16.toUInt32.toInt32)
            have e15 : (196 : Int32).toInt = 196 := rfl
            have r18 := rng32 a
            have e17 : ((a &&& (2147483647 : Int32))).toInt = (a).toInt % 2147483648 := c_mask a (2147483647 : Int32) 31 (by decide) (by decide)
            have e16 : (0 ≤ ((a &&& (2147483647 : Int32))).toInt → (((a &&& (2147483647 : Int32)) % (13 : Int32))).toInt = ((a &&& (2147483647 : Int32))).toInt % 13) ∧ (((a &&& (2147483647 : Int32))).toInt < 0 → (((a &&& (2147483647 : Int32)) % (13 : Int32))).toInt = -((-((a &&& (2147483647 : Int32))).toInt) % 13)) := c_irem (a &&& (2147483647 : Int32)) (13 : Int32) 13 rfl
            have e14 := c_iadd (196 : Int32) ((a &&& (2147483647 : Int32)) % (13 : Int32))
            have r14 := rng32 ((196 : Int32) + ((a &&& (2147483647 : Int32)) % (13 : Int32)))
            have e19 : (200 : Int32).toInt = 200 := rfl
            have e20 : (204 : Int32).toInt = 204 := rfl
            have e22 := c_i2l ((196 : Int32) + ((a &&& (2147483647 : Int32)) % (13 : Int32)))
            have e23 : (200 : Int64).toInt = 200 := rfl
            have e21 := c_lsub ((((196 : Int32) + ((a &&& (2147483647 : Int32)) % (13 : Int32)))).toInt64) (200 : Int64)
            have r21 := rng64 (((((196 : Int32) + ((a &&& (2147483647 : Int32)) % (13 : Int32)))).toInt64) - (200 : Int64))
            have e24 : (0 : Int64).toInt = 0 := rfl
            have e25 : (4 : Int64).toInt = 4 := rfl
            have e26 : (201 : Int32).toInt = 201 := rfl
            have e27 : (202 : Int32).toInt = 202 := rfl
            have e28 : (1 : Int32).toInt = 1 := rfl
            omega
          · refine G.cast (st' := [(.int (1 : Int32)), (.int (1 : Int32))]) ?_ rfl
            refine g_icmp_ne cx d0_130 (fun q => absurd q (fun q => by revert q; decide)) (fun hc130 => ?_)
            refine g_iload cx d0_133 rfl ?_
            refine g_iload cx d0_135 rfl ?_
            refine g_icmp_ne cx d0_137 (fun hc137 => ?_) (fun q => absurd q (fun q => by revert q; decide))
            refine g_iconst cx d0_144 (v := (0 : Int32)) rfl ?_
            refine g_retZ cx d0_145 rfl rfl (by decide) (by decide) ?_
            exfalso
            have i_hc3 : ¬ ((sel &&& (1 : Int32))).toInt = ((0 : Int32)).toInt := fun z => hc3 (Int32.toInt_inj.mp z)
            have i_hq361 : ¬ (cs).toInt = ((0 : Int32)).toInt := fun z => hq361 (Int32.toInt_inj.mp z)
            have i_hq362 : ¬ ((255 : Int32)).toInt < ((nar .char (((c1 &&& (255 : Int32))).toUInt32.toUInt16.toUInt32.toInt32))).toInt := fun z => hq362 (Int32.lt_iff_toInt_lt.mpr z)
            have i_hq375 : ¬ (cs).toInt = ((0 : Int32)).toInt := fun z => hq375 (Int32.toInt_inj.mp z)
            have i_hq376 : ¬ ((255 : Int32)).toInt < ((nar .char (((c2 &&& (255 : Int32))).toUInt32.toUInt16.toUInt32.toInt32))).toInt := fun z => hq376 (Int32.lt_iff_toInt_lt.mpr z)
            have i_hq390 : ¬ (((196 : Int32) + ((a &&& (2147483647 : Int32)) % (13 : Int32)))).toInt < ((200 : Int32)).toInt := fun z => hq390 (Int32.lt_iff_toInt_lt.mpr z)
            have i_hq391 : ¬ ((204 : Int32)).toInt < (((196 : Int32) + ((a &&& (2147483647 : Int32)) % (13 : Int32)))).toInt := fun z => hq391 (Int32.lt_iff_toInt_lt.mpr z)
            have i_hc104 : ¬ ((((((196 : Int32) + ((a &&& (2147483647 : Int32)) % (13 : Int32)))).toInt64) - (200 : Int64))).toInt < ((0 : Int64)).toInt := fun z => hc104 (Int64.lt_iff_toInt_lt.mpr z)
            have i_hc113 : ((4 : Int64)).toInt < ((((((196 : Int32) + ((a &&& (2147483647 : Int32)) % (13 : Int32)))).toInt64) - (200 : Int64))).toInt := Int64.lt_iff_toInt_lt.mp hc113
            have i_hq608 : ¬ (((196 : Int32) + ((a &&& (2147483647 : Int32)) % (13 : Int32)))).toInt = ((200 : Int32)).toInt := fun z => hq608 (Int32.toInt_inj.mp z)
            have i_hq609 : ¬ (((196 : Int32) + ((a &&& (2147483647 : Int32)) % (13 : Int32)))).toInt = ((201 : Int32)).toInt := fun z => hq609 (Int32.toInt_inj.mp z)
            have i_hq610 : ¬ (((196 : Int32) + ((a &&& (2147483647 : Int32)) % (13 : Int32)))).toInt = ((202 : Int32)).toInt := fun z => hq610 (Int32.toInt_inj.mp z)
            have i_hq611 : (((196 : Int32) + ((a &&& (2147483647 : Int32)) % (13 : Int32)))).toInt = ((203 : Int32)).toInt := congrArg Int32.toInt hq611
            have i_hc130 : ((1 : Int32)).toInt = ((1 : Int32)).toInt := congrArg Int32.toInt hc130
            have i_hc137 : ¬ ((1 : Int32)).toInt = ((0 : Int32)).toInt := fun z => hc137 (Int32.toInt_inj.mp z)
            have r2 := rng32 sel
            have e1 : ((sel &&& (1 : Int32))).toInt = (sel).toInt % 2 := c_mask sel (1 : Int32) 1 (by decide) (by decide)
            have e3 : (0 : Int32).toInt = 0 := rfl
            have r4 := rng32 cs
            have e5 : (255 : Int32).toInt = 255 := rfl
            have r9 := rng32 c1
            have e8 : ((c1 &&& (255 : Int32))).toInt = (c1).toInt % 256 := c_mask c1 (255 : Int32) 8 (by decide) (by decide)
            have e7 := c_i2c (c1 &&& (255 : Int32))
            have e6 : (((nar .char (((c1 &&& (255 : Int32))).toUInt32.toUInt16.toUInt32.toInt32))).toInt - ((((c1 &&& (255 : Int32))).toUInt32.toUInt16.toUInt32.toInt32)).toInt) % 65536 = 0 ∧ 0 ≤ ((nar .char (((c1 &&& (255 : Int32))).toUInt32.toUInt16.toUInt32.toInt32))).toInt ∧ ((nar .char (((c1 &&& (255 : Int32))).toUInt32.toUInt16.toUInt32.toInt32))).toInt < 65536 := c_i2c (((c1 &&& (255 : Int32))).toUInt32.toUInt16.toUInt32.toInt32)
            have r13 := rng32 c2
            have e12 : ((c2 &&& (255 : Int32))).toInt = (c2).toInt % 256 := c_mask c2 (255 : Int32) 8 (by decide) (by decide)
            have e11 := c_i2c (c2 &&& (255 : Int32))
            have e10 : (((nar .char (((c2 &&& (255 : Int32))).toUInt32.toUInt16.toUInt32.toInt32))).toInt - ((((c2 &&& (255 : Int32))).toUInt32.toUInt16.toUInt32.toInt32)).toInt) % 65536 = 0 ∧ 0 ≤ ((nar .char (((c2 &&& (255 : Int32))).toUInt32.toUInt16.toUInt32.toInt32))).toInt ∧ ((nar .char (((c2 &&& (255 : Int32))).toUInt32.toUInt16.toUInt32.toInt32))).toInt < 65536 := c_i2c (((c2 &&& (255 : Int32))).toUInt32.toUInt16.toUInt32.toInt32)
            have e15 : (196 : Int32).toInt = 196 := rfl
            have r18 := rng32 a
            have e17 : ((a &&& (2147483647 : Int32))).toInt = (a).toInt % 2147483648 := c_mask a (2147483647 : Int32) 31 (by decide) (by decide)
            have e16 : (0 ≤ ((a &&& (2147483647 : Int32))).toInt → (((a &&& (2147483647 : Int32)) % (13 : Int32))).toInt = ((a &&& (2147483647 : Int32))).toInt % 13) ∧ (((a &&& (2147483647 : Int32))).toInt < 0 → (((a &&& (2147483647 : Int32)) % (13 : Int32))).toInt = -((-((a &&& (2147483647 : Int32))).toInt) % 13)) := c_irem (a &&& (2147483647 : Int32)) (13 : Int32) 13 rfl
            have e14 := c_iadd (196 : Int32) ((a &&& (2147483647 : Int32)) % (13 : Int32))
            have r14 := rng32 ((196 : Int32) + ((a &&& (2147483647 : Int32)) % (13 : Int32)))
            have e19 : (200 : Int32).toInt = 200 := rfl
            have e20 : (204 : Int32).toInt = 204 := rfl
            have e22 := c_i2l ((196 : Int32) + ((a &&& (2147483647 : Int32)) % (13 : Int32)))
            have e23 : (200 : Int64).toInt = 200 := rfl
            have e21 := c_lsub ((((196 : Int32) + ((a &&& (2147483647 : Int32)) % (13 : Int32)))).toInt64) (200 : Int64)
            have r21 := rng64 (((((196 : Int32) + ((a &&& (2147483647 : Int32)) % (13 : Int32)))).toInt64) - (200 : Int64))
            have e24 : (0 : Int64).toInt = 0 := rfl
            have e25 : (4 : Int64).toInt = 4 := rfl
            have e26 : (201 : Int32).toInt = 201 := rfl
            have e27 : (202 : Int32).toInt = 202 := rfl
            have e28 : (203 : Int32).toInt = 203 := rfl
            have e29 : (1 : Int32).toInt = 1 := rfl
            omega
          · refine G.cast (st' := [(.int (0 : Int32)), (.int (1 : Int32))]) ?_ rfl
            refine g_icmp_ne cx d0_130 (fun hc130 => ?_) (fun q => absurd q (fun q => by revert q; decide))
            refine g_iconst cx d0_144 (v := (0 : Int32)) rfl ?_
            refine g_retZ cx d0_145 rfl rfl (by decide) (by decide) ?_
            exfalso
            have i_hc3 : ¬ ((sel &&& (1 : Int32))).toInt = ((0 : Int32)).toInt := fun z => hc3 (Int32.toInt_inj.mp z)
            have i_hq361 : ¬ (cs).toInt = ((0 : Int32)).toInt := fun z => hq361 (Int32.toInt_inj.mp z)
            have i_hq362 : ¬ ((255 : Int32)).toInt < ((nar .char (((c1 &&& (255 : Int32))).toUInt32.toUInt16.toUInt32.toInt32))).toInt := fun z => hq362 (Int32.lt_iff_toInt_lt.mpr z)
            have i_hq375 : ¬ (cs).toInt = ((0 : Int32)).toInt := fun z => hq375 (Int32.toInt_inj.mp z)
            have i_hq376 : ¬ ((255 : Int32)).toInt < ((nar .char (((c2 &&& (255 : Int32))).toUInt32.toUInt16.toUInt32.toInt32))).toInt := fun z => hq376 (Int32.lt_iff_toInt_lt.mpr z)
            have i_hq390 : ¬ (((196 : Int32) + ((a &&& (2147483647 : Int32)) % (13 : Int32)))).toInt < ((200 : Int32)).toInt := fun z => hq390 (Int32.lt_iff_toInt_lt.mpr z)
            have i_hq391 : ¬ ((204 : Int32)).toInt < (((196 : Int32) + ((a &&& (2147483647 : Int32)) % (13 : Int32)))).toInt := fun z => hq391 (Int32.lt_iff_toInt_lt.mpr z)
            have i_hc104 : ¬ ((((((196 : Int32) + ((a &&& (2147483647 : Int32)) % (13 : Int32)))).toInt64) - (200 : Int64))).toInt < ((0 : Int64)).toInt := fun z => hc104 (Int64.lt_iff_toInt_lt.mpr z)
            have i_hc113 : ((4 : Int64)).toInt < ((((((196 : Int32) + ((a &&& (2147483647 : Int32)) % (13 : Int32)))).toInt64) - (200 : Int64))).toInt := Int64.lt_iff_toInt_lt.mp hc113
            have i_hq613 : ¬ (((196 : Int32) + ((a &&& (2147483647 : Int32)) % (13 : Int32)))).toInt = ((200 : Int32)).toInt := fun z => hq613 (Int32.toInt_inj.mp z)
            have i_hq614 : ¬ (((196 : Int32) + ((a &&& (2147483647 : Int32)) % (13 : Int32)))).toInt = ((201 : Int32)).toInt := fun z => hq614 (Int32.toInt_inj.mp z)
            have i_hq615 : ¬ (((196 : Int32) + ((a &&& (2147483647 : Int32)) % (13 : Int32)))).toInt = ((202 : Int32)).toInt := fun z => hq615 (Int32.toInt_inj.mp z)
            have i_hq616 : ¬ (((196 : Int32) + ((a &&& (2147483647 : Int32)) % (13 : Int32)))).toInt = ((203 : Int32)).toInt := fun z => hq616 (Int32.toInt_inj.mp z)
            have i_hq617 : ¬ (((196 : Int32) + ((a &&& (2147483647 : Int32)) % (13 : Int32)))).toInt = ((204 : Int32)).toInt := fun z => hq617 (Int32.toInt_inj.mp z)
            have i_hc130 : ¬ ((1 : Int32)).toInt = ((0 : Int32)).toInt := fun z => hc130 (Int32.toInt_inj.mp z)
            have r2 := rng32 sel
            have e1 : ((sel &&& (1 : Int32))).toInt = (sel).toInt % 2 := c_mask sel (1 : Int32) 1 (by decide) (by decide)
            have e3 : (0 : Int32).toInt = 0 := rfl
            have r4 := rng32 cs
            have e5 : (255 : Int32).toInt = 255 := rfl
            have r9 := rng32 c1
            have e8 : ((c1 &&& (255 : Int32))).toInt = (c1).toInt % 256 := c_mask c1 (255 : Int32) 8 (by decide) (by decide)
            have e7 := c_i2c (c1 &&& (255 : Int32))
            have e6 : (((nar .char (((c1 &&& (255 : Int32))).toUInt32.toUInt16.toUInt32.toInt32))).toInt - ((((c1 &&& (255 : Int32))).toUInt32.toUInt16.toUInt32.toInt32)).toInt) % 65536 = 0 ∧ 0 ≤ ((nar .char (((c1 &&& (255 : Int32))).toUInt32.toUInt16.toUInt32.toInt32))).toInt ∧ ((nar .char (((c1 &&& (255 : Int32))).toUInt32.toUInt16.toUInt32.toInt32))).toInt < 65536 := c_i2c (((c1 &&& (255 : Int32))).toUInt32.toUInt16.toUInt32.toInt32)
            have r13 := rng32 c2
            have e12 : ((c2 &&& (255 : Int32))).toInt = (c2).toInt % 256 := c_mask c2 (255 : Int32) 8 (by decide) (by decide)
            have e11 := c_i2c (c2 &&& (255 : Int32))
            have e10 : (((nar .char (((c2 &&& (255 : Int32))).toUInt32.toUInt16.toUInt32.toInt32))).toInt - ((((c2 &&& (255 : Int32))).toUInt32.toUInt16.toUInt32.toInt32)).toInt) % 65536 = 0 ∧ 0 ≤ ((nar .char (((c2 &&& (255 : Int32))).toUInt32.toUInt16.toUInt32.toInt32))).toInt ∧ ((nar .char (((c2 &&& (255 : Int32))).toUInt32.toUInt16.toUInt32.toInt32))).toInt < 65536 := c_i2c (((c2 &&& (255 : Int32))).toUInt32.toUInt16.toUInt32.toInt32)
            have e15 : (196 : Int32).toInt = 196 := rfl
            have r18 := rng32 a
            have e17 : ((a &&& (2147483647 : Int32))).toInt = (a).toInt % 2147483648 := c_mask a (2147483647 : Int32) 31 (by decide) (by decide)
            have e16 : (0 ≤ ((a &&& (2147483647 : Int32))).toInt → (((a &&& (2147483647 : Int32)) % (13 : Int32))).toInt = ((a &&& (2147483647 : Int32))).toInt % 13) ∧ (((a &&& (2147483647 : Int32))).toInt < 0 → (((a &&& (2147483647 : Int32)) % (13 : Int32))).toInt = -((-((a &&& (2147483647 : Int32))).toInt) % 13)) := c_irem (a &&& (2147483647 : Int32)) (13 : Int32) 13 rfl
            have e14 := c_iadd (196 : Int32) ((a &&& (2147483647 : Int32)) % (13 : Int32))
            have r14 := rng32 ((196 : Int32) + ((a &&& (2147483647 : Int32)) % (13 : Int32)))
            have e19 : (200 : Int32).toInt = 200 := rfl
            have e20 : (204 : Int32).toInt = 204 := rfl
            have e22 := c_i2l ((196 : Int32) + ((a &&& (2147483647 : Int32)) % (13 : Int32)))
            have e23 : (200 : Int64).toInt = 200 := rfl
            have e21 := c_lsub ((((196 : Int32) + ((a &&& (2147483647 : Int32)) % (13 : Int32)))).toInt64) (200 : Int64)
            have r21 := rng64 (((((196 : Int32) + ((a &&& (2147483647 : Int32)) % (13 : Int32)))).toInt64) - (200 : Int64))
            have e24 : (0 : Int64).toInt = 0 := rfl
            have e25 : (4 : Int64).toInt = 4 := rfl
            have e26 : (201 : Int32).toInt = 201 := rfl
            have e27 : (202 : Int32).toInt = 202 := rfl
            have e28 : (203 : Int32).toInt = 203 := rfl
            have e29 : (1 : Int32).toInt = 1 := rfl
            omega
          · refine G.cast (st' := [(.int (1 : Int32)), (.int (1 : Int32))]) ?_ rfl
            refine g_icmp_ne cx d0_130 (fun q => absurd q (fun q => by revert q; decide)) (fun hc130 => ?_)
            refine g_iload cx d0_133 rfl ?_
            refine g_iload cx d0_135 rfl ?_
            refine g_icmp_ne cx d0_137 (fun hc137 => ?_) (fun q => absurd q (fun q => by revert q; decide))
            refine g_iconst cx d0_144 (v := (0 : Int32)) rfl ?_
            refine g_retZ cx d0_145 rfl rfl (by decide) (by decide) ?_
            exfalso
            have i_hc3 : ¬ ((sel &&& (1 : Int32))).toInt = ((0 : Int32)).toInt := fun z => hc3 (Int32.toInt_inj.mp z)
            have i_hq361 : ¬ (cs).toInt = ((0 : Int32)).toInt := fun z => hq361 (Int32.toInt_inj.mp z)
            have i_hq362 : ¬ ((255 : Int32)).toInt < ((nar .char (((c1 &&& (255 : Int32))).toUInt32.toUInt16.toUInt32.toInt32))).toInt := fun z => hq362 (Int32.lt_iff_toInt_lt.mpr z)
            have i_hq375 : ¬ (cs).toInt = ((0 : Int32)).toInt := fun z => hq375 (Int32.toInt_inj.mp z)
            have i_hq376 : ¬ ((255 : Int32)).toInt < ((nar .char (((c2 &&& (255 : Int32))).toUInt32.toUInt16.toUInt32.toInt32))).toInt := fun z => hq376 (Int32.lt_iff_toInt_lt.mpr z)
            have i_hq390 : ¬ (((196 : Int32) + ((a &&& (2147483647 : Int32)) % (13 : Int32)))).toInt < ((200 : Int32)).toInt := fun z => hq390 (Int32.lt_iff_toInt_lt.mpr z)
            have i_hq391 : ¬ ((204 : Int32)).toInt < (((196 : Int32) + ((a &&& (2147483647 : Int32)) % (13 : Int32)))).toInt := fun z => hq391 (Int32.lt_iff_toInt_lt.mpr z)
            have i_hc104 : ¬ ((((((196 : Int32) + ((a &&& (2147483647 : Int32)) % (13 : Int32)))).toInt64) - (200 : Int64))).toInt < ((0 : Int64)).toInt := fun z => hc104 (Int64.lt_iff_toInt_lt.mpr z)
            have i_hc113 : ((4 : Int64)).toInt < ((((((196 : Int32) + ((a &&& (2147483647 : Int32)) % (13 : Int32)))).toInt64) - (200 : Int64))).toInt := Int64.lt_iff_toInt_lt.mp hc113
            have i_hq619 : ¬ (((196 : Int32) + ((a &&& (2147483647 : Int32)) % (13 : Int32)))).toInt = ((200 : Int32)).toInt := fun z => hq619 (Int32.toInt_inj.mp z)
            have i_hq620 : ¬ (((196 : Int32) + ((a &&& (2147483647 : Int32)) % (13 : Int32)))).toInt = ((201 : Int32)).toInt := fun z => hq620 (Int32.toInt_inj.mp z)
            have i_hq621 : ¬ (((196 : Int32) + ((a &&& (2147483647 : Int32)) % (13 : Int32)))).toInt = ((202 : Int32)).toInt := fun z => hq621 (Int32.toInt_inj.mp z)
            have i_hq622 : ¬ (((196 : Int32) + ((a &&& (2147483647 : Int32)) % (13 : Int32)))).toInt = ((203 : Int32)).toInt := fun z => hq622 (Int32.toInt_inj.mp z)
            have i_hq623 : (((196 : Int32) + ((a &&& (2147483647 : Int32)) % (13 : Int32)))).toInt = ((204 : Int32)).toInt := congrArg Int32.toInt hq623
            have i_hc130 : ((1 : Int32)).toInt = ((1 : Int32)).toInt := congrArg Int32.toInt hc130
            have i_hc137 : ¬ ((1 : Int32)).toInt = ((0 : Int32)).toInt := fun z => hc137 (Int32.toInt_inj.mp z)
            have r2 := rng32 sel
            have e1 : ((sel &&& (1 : Int32))).toInt = (sel).toInt % 2 := c_mask sel (1 : Int32) 1 (by decide) (by decide)
            have e3 : (0 : Int32).toInt = 0 := rfl
            have r4 := rng32 cs
            have e5 : (255 : Int32).toInt = 255 := rfl
            have r9 := rng32 c1
            have e8 : ((c1 &&& (255 : Int32))).toInt = (c1).toInt % 256 := c_mask c1 (255 : Int32) 8 (by decide) (by decide)
            have e7 := c_i2c (c1 &&& (255 : Int32))
            have e6 : (((nar .char (((c1 &&& (255 : Int32))).toUInt32.toUInt16.toUInt32.toInt32))).toInt - ((((c1 &&& (255 : Int32))).toUInt32.toUInt16.toUInt32.toInt32)).toInt) % 65536 = 0 ∧ 0 ≤ ((nar .char (((c1 &&& (255 : Int32))).toUInt32.toUInt16.toUInt32.toInt32))).toInt ∧ ((nar .char (((c1 &&& (255 : Int32))).toUInt32.toUInt16.toUInt32.toInt32))).toInt < 65536 := c_i2c (((c1 &&& (255 : Int32))).toUInt32.toUInt16.toUInt32.toInt32)
            have r13 := rng32 c2
            have e12 : ((c2 &&& (255 : Int32))).toInt = (c2).toInt % 256 := c_mask c2 (255 : Int32) 8 (by decide) (by decide)
            have e11 := c_i2c (c2 &&& (255 : Int32))
            have e10 : (((nar .char (((c2 &&& (255 : Int32))).toUInt32.toUInt16.toUInt32.toInt32))).toInt - ((((c2 &&& (255 : Int32))).toUInt32.toUInt16.toUInt32.toInt32)).toInt) % 65536 = 0 ∧ 0 ≤ ((nar .char (((c2 &&& (255 : Int32))).toUInt32.toUInt16.toUInt32.toInt32))).toInt ∧ ((nar .char (((c2 &&& (255 : Int32))).toUInt32.toUInt16.toUInt32.toInt32))).toInt < 65536 := c_i2c (((c2 &&& (255 : Int32))).toUInt32.toUInt16.toUInt32.toInt32)
            have e15 : (196 : Int32).toInt = 196 := rfl
            have r18 := rng32 a
            have e17 : ((a &&& (2147483647 : Int32))).toInt = (a).toInt % 2147483648 := c_mask a (2147483647 : Int32) 31 (by decide) (by decide)
            have e16 : (0 ≤ ((a &&& (2147483647 : Int32))).toInt → (((a &&& (2147483647 : Int32)) % (13 : Int32))).toInt = ((a &&& (2147483647 : Int32))).toInt % 13) ∧ (((a &&& (2147483647 : Int32))).toInt < 0 → (((a &&& (2147483647 : Int32)) % (13 : Int32))).toInt = -((-((a &&& (2147483647 : Int32))).toInt) % 13)) := c_irem (a &&& (2147483647 : Int32)) (13 : Int32) 13 rfl
            have e14 := c_iadd (196 : Int32) ((a &&& (2147483647 : Int32)) % (13 : Int32))
            have r14 := rng32 ((196 : Int32) + ((a &&& (2147483647 : Int32)) % (13 : Int32)))
            have e19 : (200 : Int32).toInt = 200 := rfl
            have e20 : (204 : Int32).toInt = 204 := rfl
            have e22 := c_i2l ((196 : Int32) + ((a &&& (2147483647 : Int32)) % (13 : Int32)))
            have e23 : (200 : Int64).toInt = 200 := rfl
            have e21 := c_lsub ((((196 : Int32) + ((a &&& (2147483647 : Int32)) % (13 : Int32)))).toInt64) (200 : Int64)
            have r21 := rng64 (((((196 : Int32) + ((a &&& (2147483647 : Int32)) % (13 : Int32)))).toInt64) - (200 : Int64))
            have e24 : (0 : Int64).toInt = 0 := rfl
            have e25 : (4 : Int64).toInt = 4 := rfl
            have e26 : (201 : Int32).toInt = 201 := rfl
            have e27 : (202 : Int32).toInt = 202 := rfl
            have e28 : (203 : Int32).toInt = 203 := rfl
            have e29 : (1 : Int32).toInt = 1 := rfl
            omega
        · refine g_iconst cx d0_116 (v := (1 : Int32)) rfl ?_
          refine g_goto cx d0_117 ?_
          refine g_istore cx d0_121 (Ls' := #[.val (.int a), .val (.int sel), .val (.int c1), .val (.int c2), .val (.int ((196 : Int32) + ((a &&& (2147483647 : Int32)) % (13 : Int32)))), .val (.ref b330), .val (.ref b339), .val (.ref b348), .val (.int (1 : Int32)), .val (.long (((((196 : Int32) + ((a &&& (2147483647 : Int32)) % (13 : Int32)))).toInt64) - (200 : Int64))), .second, .val (.int (1 : Int32))]) rfl ?_
          refine g_iload cx d0_123 rfl ?_
          refine g_iload cx d0_125 rfl ?_
          refine g_static cx (y := (⟨"com/example/egret/egret/service/OutcomeDeliveredPinLaw", "isSuccessStatus", "(I)Z"⟩ : MethodName)) d0_127 (hw _ (List.mem_of_getElem? (i := 55) rfl)) (hw _ (List.mem_of_getElem? (i := 56) rfl)) (hw _ (List.mem_of_getElem? (i := 57) rfl)) (hw _ (List.mem_of_getElem? (i := 58) rfl)) (by decide) (bytes := method_2_code) (maxL' := 1) (M := (ra8 l Z a0 hw ((196 : Int32) + ((a &&& (2147483647 : Int32)) % (13 : Int32))) _  OL cs SCS ncs)) rfl (lenOf pd_8 rfl) (by decide) (W := 1) (Nat.le_of_eq rfl) (by decide) (k' := 7) (n' := 15) rfl rfl (by decide) (by decide) (argsL := [(.int ((196 : Int32) + ((a &&& (2147483647 : Int32)) % (13 : Int32))))]) (rest := [(.int (1 : Int32))]) rfl (fun v655 h654 q656 => ?_)
          rcases q656 with ⟨hq628, rfl, rfl⟩ | ⟨hq630, hq631, rfl, rfl⟩ | ⟨hq633, hq634, hq635, rfl, rfl⟩ | ⟨hq637, hq638, hq639, hq640, rfl, rfl⟩ | ⟨hq642, hq643, hq644, hq645, hq646, rfl, rfl⟩ | ⟨hq648, hq649, hq650, hq651, hq652, rfl, rfl⟩
          · refine G.cast (st' := [(.int (1 : Int32)), (.int (1 : Int32))]) ?_ rfl
            refine g_icmp_ne cx d0_130 (fun q => absurd q (fun q => by revert q; decide)) (fun hc130 => ?_)
            refine g_iload cx d0_133 rfl ?_
            refine g_iload cx d0_135 rfl ?_
            refine g_icmp_ne cx d0_137 (fun q => absurd q (fun q => by revert q; decide)) (fun hc137 => ?_)
            refine g_iconst cx d0_140 (v := (1 : Int32)) rfl ?_
            refine g_goto cx d0_141 ?_
            refine g_retZ cx d0_145 rfl rfl (by decide) (by decide) ?_
            rfl
          · refine G.cast (st' := [(.int (1 : Int32)), (.int (1 : Int32))]) ?_ rfl
            refine g_icmp_ne cx d0_130 (fun q => absurd q (fun q => by revert q; decide)) (fun hc130 => ?_)
            refine g_iload cx d0_133 rfl ?_
            refine g_iload cx d0_135 rfl ?_
            refine g_icmp_ne cx d0_137 (fun q => absurd q (fun q => by revert q; decide)) (fun hc137 => ?_)
            refine g_iconst cx d0_140 (v := (1 : Int32)) rfl ?_
            refine g_goto cx d0_141 ?_
            refine g_retZ cx d0_145 rfl rfl (by decide) (by decide) ?_
            rfl
          · refine G.cast (st' := [(.int (1 : Int32)), (.int (1 : Int32))]) ?_ rfl
            refine g_icmp_ne cx d0_130 (fun q => absurd q (fun q => by revert q; decide)) (fun hc130 => ?_)
            refine g_iload cx d0_133 rfl ?_
            refine g_iload cx d0_135 rfl ?_
            refine g_icmp_ne cx d0_137 (fun q => absurd q (fun q => by revert q; decide)) (fun hc137 => ?_)
            refine g_iconst cx d0_140 (v := (1 : Int32)) rfl ?_
            refine g_goto cx d0_141 ?_
            refine g_retZ cx d0_145 rfl rfl (by decide) (by decide) ?_
            rfl
          · refine G.cast (st' := [(.int (1 : Int32)), (.int (1 : Int32))]) ?_ rfl
            refine g_icmp_ne cx d0_130 (fun q => absurd q (fun q => by revert q; decide)) (fun hc130 => ?_)
            refine g_iload cx d0_133 rfl ?_
            refine g_iload cx d0_135 rfl ?_
            refine g_icmp_ne cx d0_137 (fun q => absurd q (fun q => by revert q; decide)) (fun hc137 => ?_)
            refine g_iconst cx d0_140 (v := (1 : Int32)) rfl ?_
            refine g_goto cx d0_141 ?_
            refine g_retZ cx d0_145 rfl rfl (by decide) (by decide) ?_
            rfl
          · refine G.cast (st' := [(.int (0 : Int32)), (.int (1 : Int32))]) ?_ rfl
            refine g_icmp_ne cx d0_130 (fun hc130 => ?_) (fun q => absurd q (fun q => by revert q; decide))
            refine g_iconst cx d0_144 (v := (0 : Int32)) rfl ?_
            refine g_retZ cx d0_145 rfl rfl (by decide) (by decide) ?_
            exfalso
            have i_hc3 : ¬ ((sel &&& (1 : Int32))).toInt = ((0 : Int32)).toInt := fun z => hc3 (Int32.toInt_inj.mp z)
            have i_hq361 : ¬ (cs).toInt = ((0 : Int32)).toInt := fun z => hq361 (Int32.toInt_inj.mp z)
            have i_hq362 : ¬ ((255 : Int32)).toInt < ((nar .char (((c1 &&& (255 : Int32))).toUInt32.toUInt16.toUInt32.toInt32))).toInt := fun z => hq362 (Int32.lt_iff_toInt_lt.mpr z)
            have i_hq375 : ¬ (cs).toInt = ((0 : Int32)).toInt := fun z => hq375 (Int32.toInt_inj.mp z)
            have i_hq376 : ¬ ((255 : Int32)).toInt < ((nar .char (((c2 &&& (255 : Int32))).toUInt32.toUInt16.toUInt32.toInt32))).toInt := fun z => hq376 (Int32.lt_iff_toInt_lt.mpr z)
            have i_hq390 : ¬ (((196 : Int32) + ((a &&& (2147483647 : Int32)) % (13 : Int32)))).toInt < ((200 : Int32)).toInt := fun z => hq390 (Int32.lt_iff_toInt_lt.mpr z)
            have i_hq391 : ¬ ((204 : Int32)).toInt < (((196 : Int32) + ((a &&& (2147483647 : Int32)) % (13 : Int32)))).toInt := fun z => hq391 (Int32.lt_iff_toInt_lt.mpr z)
            have i_hc104 : ¬ ((((((196 : Int32) + ((a &&& (2147483647 : Int32)) % (13 : Int32)))).toInt64) - (200 : Int64))).toInt < ((0 : Int64)).toInt := fun z => hc104 (Int64.lt_iff_toInt_lt.mpr z)
            have i_hc113 : ¬ ((4 : Int64)).toInt < ((((((196 : Int32) + ((a &&& (2147483647 : Int32)) % (13 : Int32)))).toInt64) - (200 : Int64))).toInt := fun z => hc113 (Int64.lt_iff_toInt_lt.mpr z)
            have i_hq642 : ¬ (((196 : Int32) + ((a &&& (2147483647 : Int32)) % (13 : Int32)))).toInt = ((200 : Int32)).toInt := fun z => hq642 (Int32.toInt_inj.mp z)
            have i_hq643 : ¬ (((196 : Int32) + ((a &&& (2147483647 : Int32)) % (13 : Int32)))).toInt = ((201 : Int32)).toInt := fun z => hq643 (Int32.toInt_inj.mp z)
            have i_hq644 : ¬ (((196 : Int32) + ((a &&& (2147483647 : Int32)) % (13 : Int32)))).toInt = ((202 : Int32)).toInt := fun z => hq644 (Int32.toInt_inj.mp z)
            have i_hq645 : ¬ (((196 : Int32) + ((a &&& (2147483647 : Int32)) % (13 : Int32)))).toInt = ((203 : Int32)).toInt := fun z => hq645 (Int32.toInt_inj.mp z)
            have i_hq646 : ¬ (((196 : Int32) + ((a &&& (2147483647 : Int32)) % (13 : Int32)))).toInt = ((204 : Int32)).toInt := fun z => hq646 (Int32.toInt_inj.mp z)
            have i_hc130 : ¬ ((1 : Int32)).toInt = ((0 : Int32)).toInt := fun z => hc130 (Int32.toInt_inj.mp z)
            have r2 := rng32 sel
            have e1 : ((sel &&& (1 : Int32))).toInt = (sel).toInt % 2 := c_mask sel (1 : Int32) 1 (by decide) (by decide)
            have e3 : (0 : Int32).toInt = 0 := rfl
            have r4 := rng32 cs
            have e5 : (255 : Int32).toInt = 255 := rfl
            have r9 := rng32 c1
            have e8 : ((c1 &&& (255 : Int32))).toInt = (c1).toInt % 256 := c_mask c1 (255 : Int32) 8 (by decide) (by decide)
            have e7 := c_i2c (c1 &&& (255 : Int32))
            have e6 : (((nar .char (((c1 &&& (255 : Int32))).toUInt32.toUInt16.toUInt32.toInt32))).toInt - ((((c1 &&& (255 : Int32))).toUInt32.toUInt16.toUInt32.toInt32)).toInt) % 65536 = 0 ∧ 0 ≤ ((nar .char (((c1 &&& (255 : Int32))).toUInt32.toUInt16.toUInt32.toInt32))).toInt ∧ ((nar .char (((c1 &&& (255 : Int32))).toUInt32.toUInt16.toUInt32.toInt32))).toInt < 65536 := c_i2c (((c1 &&& (255 : Int32))).toUInt32.toUInt16.toUInt32.toInt32)
            have r13 := rng32 c2
            have e12 : ((c2 &&& (255 : Int32))).toInt = (c2).toInt % 256 := c_mask c2 (255 : Int32) 8 (by decide) (by decide)
            have e11 := c_i2c (c2 &&& (255 : Int32))
            have e10 : (((nar .char (((c2 &&& (255 : Int32))).toUInt32.toUInt16.toUInt32.toInt32))).toInt - ((((c2 &&& (255 : Int32))).toUInt32.toUInt16.toUInt32.toInt32)).toInt) % 65536 = 0 ∧ 0 ≤ ((nar .char (((c2 &&& (255 : Int32))).toUInt32.toUInt16.toUInt32.toInt32))).toInt ∧ ((nar .char (((c2 &&& (255 : Int32))).toUInt32.toUInt16.toUInt32.toInt32))).toInt < 65536 := c_i2c (((c2 &&& (255 : Int32))).toUInt32.toUInt16.toUInt32.toInt32)
            have e15 : (196 : Int32).toInt = 196 := rfl
            have r18 := rng32 a
            have e17 : ((a &&& (2147483647 : Int32))).toInt = (a).toInt % 2147483648 := c_mask a (2147483647 : Int32) 31 (by decide) (by decide)
            have e16 : (0 ≤ ((a &&& (2147483647 : Int32))).toInt → (((a &&& (2147483647 : Int32)) % (13 : Int32))).toInt = ((a &&& (2147483647 : Int32))).toInt % 13) ∧ (((a &&& (2147483647 : Int32))).toInt < 0 → (((a &&& (2147483647 : Int32)) % (13 : Int32))).toInt = -((-((a &&& (2147483647 : Int32))).toInt) % 13)) := c_irem (a &&& (2147483647 : Int32)) (13 : Int32) 13 rfl
            have e14 := c_iadd (196 : Int32) ((a &&& (2147483647 : Int32)) % (13 : Int32))
            have r14 := rng32 ((196 : Int32) + ((a &&& (2147483647 : Int32)) % (13 : Int32)))
            have e19 : (200 : Int32).toInt = 200 := rfl
            have e20 : (204 : Int32).toInt = 204 := rfl
            have e22 := c_i2l ((196 : Int32) + ((a &&& (2147483647 : Int32)) % (13 : Int32)))
            have e23 : (200 : Int64).toInt = 200 := rfl
            have e21 := c_lsub ((((196 : Int32) + ((a &&& (2147483647 : Int32)) % (13 : Int32)))).toInt64) (200 : Int64)
            have r21 := rng64 (((((196 : Int32) + ((a &&& (2147483647 : Int32)) % (13 : Int32)))).toInt64) - (200 : Int64))
            have e24 : (0 : Int64).toInt = 0 := rfl
            have e25 : (4 : Int64).toInt = 4 := rfl
            have e26 : (201 : Int32).toInt = 201 := rfl
            have e27 : (202 : Int32).toInt = 202 := rfl
            have e28 : (203 : Int32).toInt = 203 := rfl
            have e29 : (1 : Int32).toInt = 1 := rfl
            omega
          · refine G.cast (st' := [(.int (1 : Int32)), (.int (1 : Int32))]) ?_ rfl
            refine g_icmp_ne cx d0_130 (fun q => absurd q (fun q => by revert q; decide)) (fun hc130 => ?_)
            refine g_iload cx d0_133 rfl ?_
            refine g_iload cx d0_135 rfl ?_
            refine g_icmp_ne cx d0_137 (fun q => absurd q (fun q => by revert q; decide)) (fun hc137 => ?_)
            refine g_iconst cx d0_140 (v := (1 : Int32)) rfl ?_
            refine g_goto cx d0_141 ?_
            refine g_retZ cx d0_145 rfl rfl (by decide) (by decide) ?_
            rfl
set_option maxRecDepth 65536 in
set_option maxHeartbeats 40000000 in
theorem comes_1 {Post : Tables → Env → Array Value → State → Outcome → State → Prop} (hpost : ∀ tb e args s v u, (limb_1_1.after args s (.returned v) u = true ∧ limb_1_2.after args s (.returned v) u = true ∧ True) → FrameEnd s (.returned v) u (Jvm.fieldLocs frame_1_writes args s ++ Jvm.arrayLocs frame_1_arrays args s ++ Jvm.staticLocs frame_1_statics s) 24 128 → Post tb e args s (.returned v) u) :
    ArmFor flags0 classFile x code maxLocals ret World_1 tables_1 room_1 Calls_1 rest_1 Pre_1 Post := by
  intro l hfl _ _ p e ha hc hk s m args below hf hA hF happ hP
  obtain ⟨hcalls, hrest, hpre⟩ := hP
  obtain ⟨-, -, -, hnamed, -, -, -, hat⟩ := (Spec.applies_iff hf).mp happ
  obtain ⟨hg, hn⟩ := and_e (Cond.before_iff.mp (show (Jvm.Cond.and given_1 narrow_1).before args s = true from hpre))
  obtain ⟨g1, g2⟩ := and_e hg
  obtain ⟨g3, g4⟩ := and_e g2
  obtain ⟨g5, g6⟩ := and_e g4
  obtain ⟨g7, g8⟩ := and_e g6
  obtain ⟨w0, w1, w2, w3, rfl⟩ : ∃ w0 w1 w2 w3 : Value, args = #[w0, w1, w2, w3] := by
    have hs : args.size = 4 := by simpa [Cond.value, given_1] using g1
    obtain ⟨L⟩ := args
    match L, hs with
    | [w0, w1, w2, w3], _ => exact ⟨w0, w1, w2, w3, rfl⟩
  have hw := fun d (hd : d ∈ tables_1) => atoms_spec (ws := Jvm.Cond.code x code maxLocals ret :: tables_1) hat d (List.mem_cons_of_mem _ hd)
  have hfit : Fit s := fun {y c} hc i hi => by
    obtain ⟨ha, rfl⟩ := Array.getElem?_eq_some_iff.mp hc
    have q := List.all_eq_true.mp ((Array.all_eq_true_iff_forall_mem.mp hF) _ (Array.getElem_mem ha)) i (List.mem_range.mpr hi)
    simpa [Array.getElem?_eq_getElem hi] using q
  obtain ⟨i0, ei0⟩ := is_v g3
  obtain rfl : w0 = (.int i0) := Option.some.inj ei0
  obtain ⟨i1, ei1⟩ := is_v g5
  obtain rfl : w1 = (.int i1) := Option.some.inj ei1
  obtain ⟨i2, ei2⟩ := is_v g7
  obtain rfl : w2 = (.int i2) := Option.some.inj ei2
  obtain ⟨i3, ei3⟩ := is_v g8
  obtain rfl : w3 = (.int i3) := Option.some.inj ei3
  obtain ⟨hsets, hown0⟩ := atoms_of _ (rest_1_c_eq ▸ (show rest_1_c.before _ s = true from hrest))
  obtain ⟨cs, SCS, ecs⟩ := sta_int (hsets _ (List.mem_of_getElem? (i := 0) rfl)) (hsets _ (List.mem_of_getElem? (i := 1) rfl))
  obtain ⟨n, o, h1, h2, h3, _, L, rfl, ⟨rfl, N⟩, hq⟩ := rm0 l s _ hw i0 i1 i2 i3 s.heap (Old.start s) cs SCS (ne_of_not ecs (hsets _ (List.mem_of_getElem? (i := 2) rfl))) tables_1 p e ha hc hk s m _ below hf ((Spec.applies_iff_loose hf).mp happ).1 ⟨rfl, State.Warmed39.refl s, rfl⟩ trivial
  refine ⟨n, _, h1, h2, h3, hpost _ _ _ _ _ _ ⟨Cond.after_iff.mpr rfl, Cond.after_iff.mpr (eq_i res_at (Term.int_eval (1)) rfl), trivial⟩ ⟨hq.1, hq.2.1, (hq.2.2.sift fun y hy => Or.inr (N y hy)).mono (by decide) (by decide)⟩⟩
theorem main_1_1 : Claimed_1_1 := comes_1 fun _ _ _ _ _ _ h hF => ⟨h.1, hF⟩
theorem main_1_2 : Claimed_1_2 := comes_1 fun _ _ _ _ _ _ h hF => ⟨h.2.1, hF⟩
end Jvm.Pilot.@@N@@
namespace Jvm.Pilot.@@N@@
open Jvm Jvm.ClassFile Sem Op Lib Jvm.Free Jvm.Stand Jvm.Pilot.@@N@@.Jvm.D
/-! MADE BY PROGRAM (witnessworld.py) out of the Statement's table words and the real class files: 21 classes; the members and pool entries that the words name. The judged class is class 1, her method 2. -/
namespace start1
open Jvm.ClassFile
def u (s : String) : CpInfo := .utf8 (stringToUtf16 s)
/-- a pool by its gaps: so many unusable entries, then the entry; so many at the end -/
def gap : Nat → List CpInfo → List CpInfo
  | 0, r => r
  | n + 1, r => .unusable :: gap n r
def poolList (es : List (Nat × CpInfo)) (last : Nat) : List CpInfo := es.foldr (fun e r => gap e.1 (e.2 :: r)) (gap last [])
def pool (es : List (Nat × CpInfo)) (last : Nat) : Array CpInfo := ⟨poolList es last⟩
def fileOf (pool : Array CpInfo) (this : Nat) (attrs : Array Attribute := #[]) (ms : Array MethodInfo := #[]) (fl : Nat := 33) (sup : Nat := 0) (ifs : Array Nat := #[]) (fds : Array FieldInfo := #[]) : ClassFile where
  minorVersion := 0
  majorVersion := 65
  constantPool := pool
  accessFlags := fl
  thisClass := this
  superClass := sup
  interfaces := ifs
  fields := fds
  methods := ms
  attributes := attrs
def plain (name : String) (sup : Option ClassId) : Class where
  name := name
  kind := .ordinary
  loader := none
  accessFlags := 33
  super := sup
  interfaces := #[]
  cf := none
  fields := #[]
  methods := #[]
  instanceTypes := #[]
  staticTypes := #[]
  resolved := #[]
  callSites := []
  init := .initialized
  statics := none
  mirror := none

def pool0 : Array CpInfo := pool [(5, u "<init>"), (0, u "()V"), (1, .class_ 10), (1, u "java/lang/Object")] 113

def k0c0 : Code := { maxStack := 0, maxLocals := 1, code := object_method_1_code, exceptionTable := #[], attributes := #[] }
def k0m0 : Method := { name := "<init>", desc := "()V", sig := { parameters := [], returnType := none }, accessFlags := 1, code := some k0c0 }
/-- java/lang/Object -/
def k0 : Class := { plain "java/lang/Object" none with
  accessFlags := 33
  interfaces := #[]
  cf := some (fileOf pool0 8 #[] #[{ accessFlags := 1, nameIndex := 5, descriptorIndex := 6, attributes := #[] }] 33 0 #[] #[])
  fields := #[]
  methods := #[k0m0]
  instanceTypes := #[]
  staticTypes := #[]
  resolved := Array.replicate 124 none
  statics := none }

def pool1 : Array CpInfo := pool [(2, .class_ 4), (1, u "java/lang/Object"), (0, u "<init>"), (0, u "()V"), (0, .integer 2147483647), (0, .class_ 9), (0, u "com/example/egret/egret/service/Outcome"), (0, .class_ 11), (0, u "java/lang/String"), (0, .methodref 10 13), (0, .nameAndType 5 14), (0, u "([C)V"), (0, .methodref 8 16), (0, .nameAndType 5 17), (0, u "(ILjava/lang/String;Ljava/lang/String;)V"), (0, .methodref 8 19), (0, .nameAndType 20 21), (0, u "delivered"), (0, u "()Z"), (0, .long 200), (1, .long 4), (1, .methodref 27 28), (0, .class_ 29), (0, .nameAndType 30 31), (0, u "com/example/egret/egret/service/OutcomeDeliveredPinLaw"), (0, u "isSuccessStatus"), (0, u "(I)Z"), (3, u "law"), (0, u "(IIII)Z")] 4

def k1m0 : Method := { name := "<init>", desc := "()V", sig := { parameters := [], returnType := none }, accessFlags := 2, code := none }
def k1c1 : Code := { maxStack := 2, maxLocals := 1, code := method_2_code, exceptionTable := #[], attributes := #[] }
def k1m1 : Method := { name := "isSuccessStatus", desc := "(I)Z", sig := { parameters := [.int], returnType := some .boolean }, accessFlags := 10, code := some k1c1 }
def k1c2 : Code := { maxStack := 7, maxLocals := 12, code := code, exceptionTable := #[], attributes := #[] }
def k1m2 : Method := { name := "law", desc := "(IIII)Z", sig := { parameters := [.int, .int, .int, .int], returnType := some .boolean }, accessFlags := 9, code := some k1c2 }
/-- com/example/egret/egret/service/OutcomeDeliveredPinLaw -/
def k1 : Class := { plain "com/example/egret/egret/service/OutcomeDeliveredPinLaw" (some 0) with
  accessFlags := 49
  interfaces := #[]
  cf := some (fileOf pool1 27 #[] #[{ accessFlags := 2, nameIndex := 5, descriptorIndex := 6, attributes := #[] }, { accessFlags := 10, nameIndex := 30, descriptorIndex := 31, attributes := #[] }, { accessFlags := 9, nameIndex := 35, descriptorIndex := 36, attributes := #[] }] 49 2 #[] #[])
  fields := #[]
  methods := #[k1m0, k1m1, k1m2]
  instanceTypes := #[]
  staticTypes := #[]
  resolved := Array.replicate 41 none
  statics := none }

def pool2 : Array CpInfo := pool [(1, .methodref 2 3), (0, .class_ 4), (0, .nameAndType 5 6), (0, u "java/lang/Object"), (0, u "<init>"), (0, u "()V"), (0, .class_ 8), (0, u "java/lang/Record")] 13

def k2c0 : Code := { maxStack := 1, maxLocals := 1, code := jdk_30_method_1_code, exceptionTable := #[], attributes := #[] }
def k2m0 : Method := { name := "<init>", desc := "()V", sig := { parameters := [], returnType := none }, accessFlags := 4, code := some k2c0 }
/-- java/lang/Record -/
def k2 : Class := { plain "java/lang/Record" (some 0) with
  accessFlags := 1057
  interfaces := #[]
  cf := some (fileOf pool2 7 #[] #[{ accessFlags := 4, nameIndex := 5, descriptorIndex := 6, attributes := #[] }] 1057 2 #[] #[])
  fields := #[]
  methods := #[k2m0]
  instanceTypes := #[]
  staticTypes := #[]
  resolved := Array.replicate 22 none
  statics := none }

def pool3 : Array CpInfo := pool [(1, .methodref 2 3), (0, .class_ 4), (0, .nameAndType 5 6), (0, u "java/lang/Record"), (0, u "<init>"), (0, u "()V"), (0, .fieldref 8 9), (0, .class_ 10), (0, .nameAndType 11 12), (0, u "com/example/egret/egret/service/Outcome"), (0, u "status"), (0, u "I"), (0, .fieldref 8 14), (0, .nameAndType 15 16), (0, u "name"), (0, u "Ljava/lang/String;"), (0, .fieldref 8 18), (0, .nameAndType 19 16), (0, u "description"), (2, u "REASON_PHRASES"), (0, u "Ljava/util/Map;"), (21, u "(ILjava/lang/String;Ljava/lang/String;)V"), (47, u "NON_RETRIABLE"), (0, u "Ljava/util/Set;"), (14, u "LEAST_DELAYS"), (72, u "NO_REPLY"), (2, u "FIRST_SUCCESS"), (1, u "LAST_SUCCESS"), (15, u "delivered"), (0, u "()Z")] 38

def k3c0 : Code := { maxStack := 2, maxLocals := 4, code := prog_13_method_1_code, exceptionTable := #[], attributes := #[] }
def k3m0 : Method := { name := "<init>", desc := "(ILjava/lang/String;Ljava/lang/String;)V", sig := { parameters := [.int, (.object "java/lang/String"), (.object "java/lang/String")], returnType := none }, accessFlags := 0, code := some k3c0 }
def k3c1 : Code := { maxStack := 2, maxLocals := 1, code := prog_13_method_7_code, exceptionTable := #[], attributes := #[] }
def k3m1 : Method := { name := "delivered", desc := "()Z", sig := { parameters := [], returnType := some .boolean }, accessFlags := 0, code := some k3c1 }
/-- com/example/egret/egret/service/Outcome -/
def k3 : Class := { plain "com/example/egret/egret/service/Outcome" (some 2) with
  accessFlags := 48
  interfaces := #[]
  cf := some (fileOf pool3 8 #[] #[{ accessFlags := 0, nameIndex := 5, descriptorIndex := 45, attributes := #[] }, { accessFlags := 0, nameIndex := 203, descriptorIndex := 204, attributes := #[] }] 48 2 #[] #[{ accessFlags := 18, nameIndex := 11, descriptorIndex := 12, attributes := #[] }, { accessFlags := 18, nameIndex := 15, descriptorIndex := 16, attributes := #[] }, { accessFlags := 18, nameIndex := 19, descriptorIndex := 16, attributes := #[] }, { accessFlags := 24, nameIndex := 182, descriptorIndex := 12, attributes := #[] }, { accessFlags := 26, nameIndex := 185, descriptorIndex := 12, attributes := #[] }, { accessFlags := 26, nameIndex := 187, descriptorIndex := 12, attributes := #[] }, { accessFlags := 26, nameIndex := 93, descriptorIndex := 94, attributes := #[] }, { accessFlags := 26, nameIndex := 109, descriptorIndex := 23, attributes := #[] }, { accessFlags := 26, nameIndex := 22, descriptorIndex := 23, attributes := #[] }])
  fields := #[{ name := "status", type := .int, accessFlags := 18, slot := 0, constantValue := 0 }, { name := "name", type := (.object "java/lang/String"), accessFlags := 18, slot := 1, constantValue := 0 }, { name := "description", type := (.object "java/lang/String"), accessFlags := 18, slot := 2, constantValue := 0 }, { name := "NO_REPLY", type := .int, accessFlags := 24, slot := 0, constantValue := 0 }, { name := "FIRST_SUCCESS", type := .int, accessFlags := 26, slot := 1, constantValue := 0 }, { name := "LAST_SUCCESS", type := .int, accessFlags := 26, slot := 2, constantValue := 0 }, { name := "NON_RETRIABLE", type := (.object "java/util/Set"), accessFlags := 26, slot := 3, constantValue := 0 }, { name := "LEAST_DELAYS", type := (.object "java/util/Map"), accessFlags := 26, slot := 4, constantValue := 0 }, { name := "REASON_PHRASES", type := (.object "java/util/Map"), accessFlags := 26, slot := 5, constantValue := 0 }]
  methods := #[k3m0, k3m1]
  instanceTypes := #[.int, (.object "java/lang/String"), (.object "java/lang/String")]
  staticTypes := #[.int, .int, .int, (.object "java/util/Set"), (.object "java/util/Map"), (.object "java/util/Map")]
  resolved := Array.replicate 243 none
  statics := none }

def pool4 : Array CpInfo := pool [(1, .class_ 2), (0, u "java/io/Serializable"), (0, .class_ 4), (0, u "java/lang/Object")] 2

/-- java/io/Serializable -/
def k4 : Class := { plain "java/io/Serializable" (some 0) with
  accessFlags := 1537
  interfaces := #[]
  cf := some (fileOf pool4 1 #[] #[] 1537 3 #[] #[])
  fields := #[]
  methods := #[]
  instanceTypes := #[]
  staticTypes := #[]
  resolved := Array.replicate 7 none
  statics := none }

def pool5 : Array CpInfo := pool [(1, .class_ 2), (0, u "java/lang/Comparable"), (0, .class_ 4), (0, u "java/lang/Object")] 7

/-- java/lang/Comparable -/
def k5 : Class := { plain "java/lang/Comparable" (some 0) with
  accessFlags := 1537
  interfaces := #[]
  cf := some (fileOf pool5 1 #[] #[] 1537 3 #[] #[])
  fields := #[]
  methods := #[]
  instanceTypes := #[]
  staticTypes := #[]
  resolved := Array.replicate 12 none
  statics := none }

def pool6 : Array CpInfo := pool [(2, .class_ 4), (1, u "java/lang/CharSequence"), (42, .class_ 48), (0, u "java/lang/CharSequence$1CodePointIterator"), (10, .class_ 60), (0, u "java/lang/CharSequence$1CharIterator"), (5, .class_ 67), (0, u "java/lang/Object")] 63

/-- java/lang/CharSequence -/
def k6 : Class := { plain "java/lang/CharSequence" (some 0) with
  accessFlags := 1537
  interfaces := #[]
  cf := some (fileOf pool6 2 #[.nestMembers #[47, 59]] #[] 1537 66 #[] #[])
  fields := #[]
  methods := #[]
  instanceTypes := #[]
  staticTypes := #[]
  resolved := Array.replicate 131 none
  statics := none }

def pool7 : Array CpInfo := pool [(1, .class_ 2), (0, u "java/lang/constant/Constable"), (0, .class_ 4), (0, u "java/lang/Object")] 6

/-- java/lang/constant/Constable -/
def k7 : Class := { plain "java/lang/constant/Constable" (some 0) with
  accessFlags := 1537
  interfaces := #[]
  cf := some (fileOf pool7 1 #[] #[] 1537 3 #[] #[])
  fields := #[]
  methods := #[]
  instanceTypes := #[]
  staticTypes := #[]
  resolved := Array.replicate 11 none
  statics := none }

def pool8 : Array CpInfo := pool [(1, .class_ 2), (0, u "java/lang/constant/ConstantDesc"), (0, .class_ 4), (0, u "java/lang/Object")] 32

/-- java/lang/constant/ConstantDesc -/
def k8 : Class := { plain "java/lang/constant/ConstantDesc" (some 0) with
  accessFlags := 1537
  interfaces := #[]
  cf := some (fileOf pool8 1 #[] #[] 1537 3 #[] #[])
  fields := #[]
  methods := #[]
  instanceTypes := #[]
  staticTypes := #[]
  resolved := Array.replicate 37 none
  statics := none }

def pool9 : Array CpInfo := pool [(1, .methodref 2 3), (0, .class_ 4), (0, .nameAndType 5 6), (0, u "java/lang/Object"), (0, u "<init>"), (0, u "()V"), (2, .fieldref 10 11), (0, .class_ 12), (0, .nameAndType 13 14), (0, u "java/lang/String"), (0, u "value"), (0, u "[B"), (0, .fieldref 10 16), (0, .nameAndType 17 18), (0, u "coder"), (0, u "B"), (2, u "hash"), (0, u "I"), (2, u "hashIsZero"), (0, u "Z"), (0, .methodref 10 28), (0, .nameAndType 5 29), (0, u "([CIILjava/lang/Void;)V"), (8, .fieldref 10 39), (0, .nameAndType 40 26), (0, u "COMPACT_STRINGS"), (1, .class_ 44), (1, u "java/lang/StringUTF16"), (0, u "compress"), (1, .methodref 42 48), (0, .nameAndType 49 50), (0, u "coderFromArrayLen"), (0, u "([BI)B"), (126, .methodref 42 178), (0, .nameAndType 45 179), (0, u "([CII)[B"), (395, .class_ 576), (0, u "java/lang/CharSequence"), (22, u "CASE_INSENSITIVE_ORDER"), (0, u "Ljava/util/Comparator;"), (409, u "([C)V"), (90, u "serialPersistentFields"), (0, u "[Ljava/io/ObjectStreamField;"), (0, .class_ 1104), (0, u "java/lang/String$CaseInsensitiveComparator"), (1, .class_ 1107), (0, u "java/io/Serializable"), (0, .class_ 1109), (0, u "java/lang/Comparable"), (0, .class_ 1111), (0, u "java/lang/constant/Constable"), (0, .class_ 1113), (0, u "java/lang/constant/ConstantDesc"), (2, u "serialVersionUID"), (0, u "J"), (3, u "REPL"), (0, u "C"), (2, u "LATIN1"), (1, u "UTF16")] 323

def k9m0 : Method := { name := "<init>", desc := "()V", sig := { parameters := [], returnType := none }, accessFlags := 1, code := none }
def k9c1 : Code := { maxStack := 5, maxLocals := 2, code := jdk_42_method_3_code, exceptionTable := #[], attributes := #[] }
def k9m1 : Method := { name := "<init>", desc := "([C)V", sig := { parameters := [(.array .char)], returnType := none }, accessFlags := 1, code := some k9c1 }
def k9c2 : Code := { maxStack := 4, maxLocals := 6, code := jdk_42_method_149_code, exceptionTable := #[], attributes := #[] }
def k9m2 : Method := { name := "<init>", desc := "([CIILjava/lang/Void;)V", sig := { parameters := [(.array .char), .int, .int, (.object "java/lang/Void")], returnType := none }, accessFlags := 2, code := some k9c2 }
/-- java/lang/String -/
def k9 : Class := { plain "java/lang/String" (some 0) with
  accessFlags := 49
  interfaces := #[4, 5, 6, 7, 8]
  cf := some (fileOf pool9 10 #[.nestMembers #[1103]] #[{ accessFlags := 1, nameIndex := 5, descriptorIndex := 6, attributes := #[] }, { accessFlags := 1, nameIndex := 5, descriptorIndex := 1010, attributes := #[] }, { accessFlags := 2, nameIndex := 5, descriptorIndex := 29, attributes := #[] }] 49 2 #[1106, 1108, 575, 1110, 1112] #[{ accessFlags := 18, nameIndex := 13, descriptorIndex := 14, attributes := #[] }, { accessFlags := 18, nameIndex := 17, descriptorIndex := 18, attributes := #[] }, { accessFlags := 2, nameIndex := 21, descriptorIndex := 22, attributes := #[] }, { accessFlags := 2, nameIndex := 25, descriptorIndex := 26, attributes := #[] }, { accessFlags := 26, nameIndex := 1116, descriptorIndex := 1117, attributes := #[] }, { accessFlags := 24, nameIndex := 40, descriptorIndex := 26, attributes := #[] }, { accessFlags := 26, nameIndex := 1101, descriptorIndex := 1102, attributes := #[] }, { accessFlags := 26, nameIndex := 1121, descriptorIndex := 1122, attributes := #[] }, { accessFlags := 25, nameIndex := 599, descriptorIndex := 600, attributes := #[] }, { accessFlags := 24, nameIndex := 1125, descriptorIndex := 18, attributes := #[] }, { accessFlags := 24, nameIndex := 1127, descriptorIndex := 18, attributes := #[] }])
  fields := #[{ name := "value", type := (.array .byte), accessFlags := 18, slot := 0, constantValue := 0 }, { name := "coder", type := .byte, accessFlags := 18, slot := 1, constantValue := 0 }, { name := "hash", type := .int, accessFlags := 2, slot := 2, constantValue := 0 }, { name := "hashIsZero", type := .boolean, accessFlags := 2, slot := 3, constantValue := 0 }, { name := "serialVersionUID", type := .long, accessFlags := 26, slot := 0, constantValue := 0 }, { name := "COMPACT_STRINGS", type := .boolean, accessFlags := 24, slot := 1, constantValue := 0 }, { name := "serialPersistentFields", type := (.array (.object "java/io/ObjectStreamField")), accessFlags := 26, slot := 2, constantValue := 0 }, { name := "REPL", type := .char, accessFlags := 26, slot := 3, constantValue := 0 }, { name := "CASE_INSENSITIVE_ORDER", type := (.object "java/util/Comparator"), accessFlags := 25, slot := 4, constantValue := 0 }, { name := "LATIN1", type := .byte, accessFlags := 24, slot := 5, constantValue := 0 }, { name := "UTF16", type := .byte, accessFlags := 24, slot := 6, constantValue := 0 }]
  methods := #[k9m0, k9m1, k9m2]
  instanceTypes := #[(.array .byte), .byte, .int, .boolean]
  staticTypes := #[.long, .boolean, (.array (.object "java/io/ObjectStreamField")), .char, (.object "java/util/Comparator"), .byte, .byte]
  resolved := Array.replicate 1451 none
  statics := some 0 }

def pool10 : Array CpInfo := pool [(6, .class_ 8), (1, u "java/lang/Object"), (0, u "<init>"), (0, u "()V"), (1, .class_ 14), (1, u "java/lang/StringUTF16"), (31, u "$assertionsDisabled"), (0, u "Z"), (13, u "HI_BYTE_SHIFT"), (0, u "I"), (2, u "LO_BYTE_SHIFT"), (49, .methodref 12 116), (0, .nameAndType 117 118), (0, u "compress"), (0, u "([CI[BII)I"), (3, u "([CII)[B"), (138, u "coderFromArrayLen"), (0, u "([BI)B"), (106, .class_ 371), (1, u "java/lang/StringUTF16$LinesSpliterator"), (58, u "MAX_LENGTH"), (196, .class_ 628), (0, u "java/lang/StringUTF16$CodePointsSpliterator"), (0, .class_ 630), (0, u "java/lang/StringUTF16$CharsSpliterator")] 4

def k10m0 : Method := { name := "<init>", desc := "()V", sig := { parameters := [], returnType := none }, accessFlags := 0, code := none }
def k10c1 : Code := { maxStack := 2, maxLocals := 2, code := jdk_52_method_15_code, exceptionTable := #[], attributes := #[] }
def k10m1 : Method := { name := "coderFromArrayLen", desc := "([BI)B", sig := { parameters := [(.array .byte), .int], returnType := some .byte }, accessFlags := 8, code := some k10c1 }
def k10c2 : Code := { maxStack := 5, maxLocals := 6, code := jdk_52_method_16_code, exceptionTable := #[], attributes := #[] }
def k10m2 : Method := { name := "compress", desc := "([CII)[B", sig := { parameters := [(.array .char), .int, .int], returnType := some (.array .byte) }, accessFlags := 9, code := some k10c2 }
def k10c3 : Code := { maxStack := 3, maxLocals := 7, code := jdk_52_method_21_code, exceptionTable := #[], attributes := #[] }
def k10m3 : Method := { name := "compress", desc := "([CI[BII)I", sig := { parameters := [(.array .char), .int, (.array .byte), .int, .int], returnType := some .int }, accessFlags := 9, code := some k10c3 }
/-- java/lang/StringUTF16 -/
def k10 : Class := { plain "java/lang/StringUTF16" (some 0) with
  accessFlags := 48
  interfaces := #[]
  cf := some (fileOf pool10 12 #[.nestMembers #[627, 629, 369]] #[{ accessFlags := 0, nameIndex := 9, descriptorIndex := 10, attributes := #[] }, { accessFlags := 8, nameIndex := 261, descriptorIndex := 262, attributes := #[] }, { accessFlags := 9, nameIndex := 117, descriptorIndex := 122, attributes := #[] }, { accessFlags := 9, nameIndex := 117, descriptorIndex := 118, attributes := #[] }] 48 6 #[] #[{ accessFlags := 26, nameIndex := 61, descriptorIndex := 62, attributes := #[] }, { accessFlags := 26, nameIndex := 65, descriptorIndex := 62, attributes := #[] }, { accessFlags := 24, nameIndex := 430, descriptorIndex := 62, attributes := #[] }, { accessFlags := 4120, nameIndex := 46, descriptorIndex := 47, attributes := #[] }])
  fields := #[{ name := "HI_BYTE_SHIFT", type := .int, accessFlags := 26, slot := 0, constantValue := 0 }, { name := "LO_BYTE_SHIFT", type := .int, accessFlags := 26, slot := 1, constantValue := 0 }, { name := "MAX_LENGTH", type := .int, accessFlags := 24, slot := 2, constantValue := 0 }, { name := "$assertionsDisabled", type := .boolean, accessFlags := 4120, slot := 3, constantValue := 0 }]
  methods := #[k10m0, k10m1, k10m2, k10m3]
  instanceTypes := #[]
  staticTypes := #[.int, .int, .int, .boolean]
  resolved := Array.replicate 635 none
  statics := none }

def pool11 : Array CpInfo := pool [(4, .class_ 6), (1, u "java/lang/Object"), (0, u "<init>"), (0, u "()V"), (5, .class_ 16), (1, u "java/lang/StringLatin1"), (104, u "$assertionsDisabled"), (0, u "Z"), (98, .class_ 223), (1, u "java/lang/StringLatin1$LinesSpliterator"), (166, .class_ 391), (0, u "java/lang/StringLatin1$CharsSpliterator")] 3

def k11m0 : Method := { name := "<init>", desc := "()V", sig := { parameters := [], returnType := none }, accessFlags := 0, code := none }
/-- java/lang/StringLatin1 -/
def k11 : Class := { plain "java/lang/StringLatin1" (some 0) with
  accessFlags := 48
  interfaces := #[]
  cf := some (fileOf pool11 14 #[.nestMembers #[390, 221]] #[{ accessFlags := 0, nameIndex := 7, descriptorIndex := 8, attributes := #[] }] 48 4 #[] #[{ accessFlags := 4120, nameIndex := 121, descriptorIndex := 122, attributes := #[] }])
  fields := #[{ name := "$assertionsDisabled", type := .boolean, accessFlags := 4120, slot := 0, constantValue := 0 }]
  methods := #[k11m0]
  instanceTypes := #[]
  staticTypes := #[.boolean]
  resolved := Array.replicate 395 none
  statics := none }

def pool12 : Array CpInfo := pool [(2, .class_ 4), (1, u "java/lang/Object"), (0, u "<init>"), (0, u "()V"), (17, .class_ 26), (1, u "jdk/internal/util/Preconditions"), (28, .class_ 56), (0, u "jdk/internal/util/Preconditions$4"), (57, .class_ 115), (0, u "jdk/internal/util/Preconditions$1"), (7, u "SIOOBE_FORMATTER"), (0, u "Ljava/util/function/BiFunction;"), (0, .class_ 126), (0, u "jdk/internal/util/Preconditions$2"), (3, u "AIOOBE_FORMATTER"), (0, .class_ 132), (0, u "jdk/internal/util/Preconditions$3"), (3, u "IOOBE_FORMATTER")] 57

def k12m0 : Method := { name := "<init>", desc := "()V", sig := { parameters := [], returnType := none }, accessFlags := 1, code := none }
/-- jdk/internal/util/Preconditions -/
def k12 : Class := { plain "jdk/internal/util/Preconditions" (some 0) with
  accessFlags := 33
  interfaces := #[]
  cf := some (fileOf pool12 24 #[.nestMembers #[55, 131, 125, 114]] #[{ accessFlags := 1, nameIndex := 5, descriptorIndex := 6, attributes := #[] }] 33 2 #[] #[{ accessFlags := 25, nameIndex := 123, descriptorIndex := 124, attributes := #[] }, { accessFlags := 25, nameIndex := 130, descriptorIndex := 124, attributes := #[] }, { accessFlags := 25, nameIndex := 136, descriptorIndex := 124, attributes := #[] }])
  fields := #[{ name := "SIOOBE_FORMATTER", type := (.object "java/util/function/BiFunction"), accessFlags := 25, slot := 0, constantValue := 0 }, { name := "AIOOBE_FORMATTER", type := (.object "java/util/function/BiFunction"), accessFlags := 25, slot := 1, constantValue := 0 }, { name := "IOOBE_FORMATTER", type := (.object "java/util/function/BiFunction"), accessFlags := 25, slot := 2, constantValue := 0 }]
  methods := #[k12m0]
  instanceTypes := #[]
  staticTypes := #[(.object "java/util/function/BiFunction"), (.object "java/util/function/BiFunction"), (.object "java/util/function/BiFunction")]
  resolved := Array.replicate 194 none
  statics := some 1 }

def pool13 : Array CpInfo := pool [(9, u "<init>"), (6, .class_ 18), (1, u "java/lang/Object"), (0, u "()V"), (1, .class_ 23), (1, u "jdk/internal/util/ArraysSupport"), (0, u "LOG2_ARRAY_LONG_INDEX_SCALE"), (0, u "I"), (2, u "U"), (0, u "Ljdk/internal/misc/Unsafe;"), (8, u "BIG_ENDIAN"), (0, u "Z"), (8, u "LOG2_BYTE_BIT_SIZE"), (4, u "LOG2_ARRAY_INT_INDEX_SCALE"), (54, u "JLA"), (0, u "Ljdk/internal/access/JavaLangAccess;"), (11, u "LOG2_ARRAY_BOOLEAN_INDEX_SCALE"), (9, u "LOG2_ARRAY_BYTE_INDEX_SCALE"), (5, u "LOG2_ARRAY_CHAR_INDEX_SCALE"), (5, u "LOG2_ARRAY_SHORT_INDEX_SCALE"), (18, u "LOG2_ARRAY_FLOAT_INDEX_SCALE"), (24, u "LOG2_ARRAY_DOUBLE_INDEX_SCALE"), (89, u "T_BOOLEAN"), (2, u "T_CHAR"), (1, u "T_FLOAT"), (1, u "T_DOUBLE"), (1, u "T_BYTE"), (1, u "T_SHORT"), (1, u "T_INT"), (1, u "T_LONG"), (1, u "SOFT_MAX_ARRAY_LENGTH")] 83

def k13m0 : Method := { name := "<init>", desc := "()V", sig := { parameters := [], returnType := none }, accessFlags := 2, code := none }
/-- jdk/internal/util/ArraysSupport -/
def k13 : Class := { plain "jdk/internal/util/ArraysSupport" (some 0) with
  accessFlags := 33
  interfaces := #[]
  cf := some (fileOf pool13 21 #[] #[{ accessFlags := 2, nameIndex := 9, descriptorIndex := 19, attributes := #[] }] 33 16 #[] #[{ accessFlags := 24, nameIndex := 28, descriptorIndex := 29, attributes := #[] }, { accessFlags := 26, nameIndex := 38, descriptorIndex := 39, attributes := #[] }, { accessFlags := 25, nameIndex := 121, descriptorIndex := 25, attributes := #[] }, { accessFlags := 25, nameIndex := 131, descriptorIndex := 25, attributes := #[] }, { accessFlags := 25, nameIndex := 137, descriptorIndex := 25, attributes := #[] }, { accessFlags := 25, nameIndex := 143, descriptorIndex := 25, attributes := #[] }, { accessFlags := 25, nameIndex := 53, descriptorIndex := 25, attributes := #[] }, { accessFlags := 25, nameIndex := 24, descriptorIndex := 25, attributes := #[] }, { accessFlags := 25, nameIndex := 162, descriptorIndex := 25, attributes := #[] }, { accessFlags := 25, nameIndex := 187, descriptorIndex := 25, attributes := #[] }, { accessFlags := 26, nameIndex := 48, descriptorIndex := 25, attributes := #[] }, { accessFlags := 25, nameIndex := 277, descriptorIndex := 25, attributes := #[] }, { accessFlags := 25, nameIndex := 280, descriptorIndex := 25, attributes := #[] }, { accessFlags := 25, nameIndex := 282, descriptorIndex := 25, attributes := #[] }, { accessFlags := 25, nameIndex := 284, descriptorIndex := 25, attributes := #[] }, { accessFlags := 25, nameIndex := 286, descriptorIndex := 25, attributes := #[] }, { accessFlags := 25, nameIndex := 288, descriptorIndex := 25, attributes := #[] }, { accessFlags := 25, nameIndex := 290, descriptorIndex := 25, attributes := #[] }, { accessFlags := 25, nameIndex := 292, descriptorIndex := 25, attributes := #[] }, { accessFlags := 26, nameIndex := 108, descriptorIndex := 109, attributes := #[] }, { accessFlags := 25, nameIndex := 294, descriptorIndex := 25, attributes := #[] }])
  fields := #[{ name := "U", type := (.object "jdk/internal/misc/Unsafe"), accessFlags := 24, slot := 0, constantValue := 0 }, { name := "BIG_ENDIAN", type := .boolean, accessFlags := 26, slot := 1, constantValue := 0 }, { name := "LOG2_ARRAY_BOOLEAN_INDEX_SCALE", type := .int, accessFlags := 25, slot := 2, constantValue := 0 }, { name := "LOG2_ARRAY_BYTE_INDEX_SCALE", type := .int, accessFlags := 25, slot := 3, constantValue := 0 }, { name := "LOG2_ARRAY_CHAR_INDEX_SCALE", type := .int, accessFlags := 25, slot := 4, constantValue := 0 }, { name := "LOG2_ARRAY_SHORT_INDEX_SCALE", type := .int, accessFlags := 25, slot := 5, constantValue := 0 }, { name := "LOG2_ARRAY_INT_INDEX_SCALE", type := .int, accessFlags := 25, slot := 6, constantValue := 0 }, { name := "LOG2_ARRAY_LONG_INDEX_SCALE", type := .int, accessFlags := 25, slot := 7, constantValue := 0 }, { name := "LOG2_ARRAY_FLOAT_INDEX_SCALE", type := .int, accessFlags := 25, slot := 8, constantValue := 0 }, { name := "LOG2_ARRAY_DOUBLE_INDEX_SCALE", type := .int, accessFlags := 25, slot := 9, constantValue := 0 }, { name := "LOG2_BYTE_BIT_SIZE", type := .int, accessFlags := 26, slot := 10, constantValue := 0 }, { name := "T_BOOLEAN", type := .int, accessFlags := 25, slot := 11, constantValue := 0 }, { name := "T_CHAR", type := .int, accessFlags := 25, slot := 12, constantValue := 0 }, { name := "T_FLOAT", type := .int, accessFlags := 25, slot := 13, constantValue := 0 }, { name := "T_DOUBLE", type := .int, accessFlags := 25, slot := 14, constantValue := 0 }, { name := "T_BYTE", type := .int, accessFlags := 25, slot := 15, constantValue := 0 }, { name := "T_SHORT", type := .int, accessFlags := 25, slot := 16, constantValue := 0 }, { name := "T_INT", type := .int, accessFlags := 25, slot := 17, constantValue := 0 }, { name := "T_LONG", type := .int, accessFlags := 25, slot := 18, constantValue := 0 }, { name := "JLA", type := (.object "jdk/internal/access/JavaLangAccess"), accessFlags := 26, slot := 19, constantValue := 0 }, { name := "SOFT_MAX_ARRAY_LENGTH", type := .int, accessFlags := 25, slot := 20, constantValue := 0 }]
  methods := #[k13m0]
  instanceTypes := #[]
  staticTypes := #[(.object "jdk/internal/misc/Unsafe"), .boolean, .int, .int, .int, .int, .int, .int, .int, .int, .int, .int, .int, .int, .int, .int, .int, .int, .int, (.object "jdk/internal/access/JavaLangAccess"), .int]
  resolved := Array.replicate 378 none
  statics := none }

def pool14 : Array CpInfo := pool [(1, u "java/lang/Cloneable"), (0, .class_ 1), (0, u "java/lang/Object"), (0, .class_ 3)] 3

/-- java/lang/Cloneable -/
def k14 : Class := { plain "java/lang/Cloneable" (some 0) with
  accessFlags := 1537
  interfaces := #[]
  cf := some (fileOf pool14 2 #[] #[] 1537 4 #[] #[])
  fields := #[]
  methods := #[]
  instanceTypes := #[]
  staticTypes := #[]
  resolved := Array.replicate 8 none
  statics := none }

/-- the primitive byte -/
def k15 : Class := { plain "byte" none with kind := .primitive 'B', accessFlags := 0x411 }
/-- [B -/
def k16 : Class := { plain "[B" (some 0) with kind := .array 15 .byte, interfaces := #[14, 4], accessFlags := 1041 }

/-- the primitive char -/
def k17 : Class := { plain "char" none with kind := .primitive 'C', accessFlags := 0x411 }
/-- [C -/
def k18 : Class := { plain "[C" (some 0) with kind := .array 17 .char, interfaces := #[14, 4], accessFlags := 1041 }

/-- the primitive int -/
def k19 : Class := { plain "int" none with kind := .primitive 'I', accessFlags := 0x411 }
/-- [I -/
def k20 : Class := { plain "[I" (some 0) with kind := .array 19 .int, interfaces := #[14, 4], accessFlags := 1041 }

def heap : Heap := #[{ cls := 9, slots := #[.long 0, .int 1, .null, .int 0, .null, .int 0, .int 0], vm := .statics 9 },
  { cls := 12, slots := #[.null, .null, .null], vm := .statics 12 }]
def classes : Array Class := #[k0, k1, k2, k3, k4, k5, k6, k7, k8, k9, k10, k11, k12, k13, k14, k15, k16, k17, k18, k19, k20]
def interned : List (Array UInt16 × Addr) := []
def slotsUsed : Nat := 10
def theMethod : MethodId := ⟨1, 2⟩
def args0 : Array Value := #[.int 5, .int 7, .int 3, .int 4]
def aboutOver (below : List Frame) : State where
  vm := { classes := classes, interned := interned.toArray }
  heap := heap
  slotsUsed := slotsUsed
  threads := #[{ frames := .invoking theMethod args0 :: below }]
def below0 : List Frame := [.native { method := ⟨0, 0⟩, args := #[] }]
def about1 : State := aboutOver below0
def p0 : Program := .bare "" "" ""
def e0 : Env := launch0.env 0 0 0
theorem w_frames : about1.frames = Frame.invoking theMethod args0 :: below0 := rfl
set_option maxRecDepth 65536 in
theorem w_args : argsFit about1.vm theMethod args0 = true := by decide +kernel
set_option maxRecDepth 65536 in
theorem w_heap : heapFits about1 = true := by decide +kernel
set_option maxRecDepth 65536 in
theorem w_runnable : about1.curStatus? = some .runnable := by decide +kernel
set_option maxRecDepth 65536 in
theorem w_alone : about1.alone = true := by decide +kernel
set_option maxRecDepth 65536 in
theorem w_named : about1.methodNamed? x = some theMethod := by decide +kernel
set_option maxRecDepth 65536 in
theorem w_hears : about1.hears theMethod below0 = true := by decide +kernel
set_option maxRecDepth 65536 in
theorem w_ripe : about1.ripe theMethod args0 below0 = true := by decide +kernel
theorem w_running : about1.status = .running := rfl
set_option maxRecDepth 65536 in
theorem w_room : about1.hasRoom e0.platform room_1 = true :=
  launch0.hasRoom_least _ room_1 (by decide +kernel) (by decide +kernel) (by decide +kernel) (by decide +kernel) (by decide +kernel) (by decide +kernel)
theorem allAtoms_all (ts : List Jvm.Cond) (a : Array Jvm.Value) (st : Jvm.State) : (allAtoms ts).before a st = ts.all (fun c => c.before a st) := by
  induction ts with
  | nil => rfl
  | cons c t ih =>
    show (Jvm.Cond.and c (allAtoms t)).before a st = _
    rw [Jvm.Cond.before_and, ih, List.all_cons]
def words1 : List Jvm.Cond := Jvm.Cond.code x code maxLocals ret :: tables_1
/-- a 'code' word, met by the world's own term for the bytes: nothing is compared byte by byte -/
theorem code_word {y : MethodName} {bytes : ByteArray} {mx : Nat} {rt : Option FieldType} {a : Array Value} {s : State} {m : MethodId} {meth : Method} {c : Code} (h1 : s.methodNamed? y = some m) (h2 : s.vm.method? m = some meth) (h3 : meth.code = some c) (h4 : c.code = bytes)
    (h5 : (c.maxLocals == mx && c.exceptionTable.isEmpty && decide (c.maxStack ≤ mostOperands) && decide (meth.sig.returnType = rt) && !meth.locks && decide (parseMethodDescriptor y.desc = some meth.sig)) = true) : (Jvm.Cond.code y bytes mx rt).before a s = true := by
  simp only [Bool.and_eq_true, beq_iff_eq, Bool.not_eq_true', decide_eq_true_eq] at h5
  obtain ⟨⟨⟨⟨⟨g1, g2⟩, g3⟩, g4⟩, g5⟩, g6⟩ := h5
  simp [Cond.before, Cond.holds, Cond.value, h1, h2, h3, h4, g1, g2, g3, g4, g5, g6]
def isCode : Jvm.Cond → Bool
  | .code _ _ _ _ => true
  | _ => false
theorem all_split {L : List Jvm.Cond} {P : Jvm.Cond → Bool} (h1 : L.all (fun c => isCode c || P c) = true) (h2 : ∀ c ∈ L.filter isCode, P c = true) : L.all P = true := by
  refine List.all_eq_true.mpr fun c hc => ?_
  have h := List.all_eq_true.mp h1 c hc
  rcases Bool.eq_false_or_eq_true (isCode c) with hi | hi
  · exact h2 c (List.mem_filter.mpr ⟨hc, hi⟩)
  · simpa [hi] using h
set_option maxRecDepth 65536 in
theorem w_c0 : (Jvm.Cond.code x code maxLocals ret).before args0 about1 = true := code_word (m := ⟨1, 2⟩) (meth := k1m2) (c := k1c2) (by decide +kernel) rfl rfl rfl (by decide +kernel)
set_option maxRecDepth 65536 in
theorem w_c1 : (Jvm.Cond.code ({ cls := "java/lang/String", name := "<init>", desc := "([C)V" } : Jvm.MethodName) jdk_42_method_3_code (2 : Nat) (Option.none : Option Jvm.ClassFile.FieldType)).before args0 about1 = true := code_word (m := ⟨9, 1⟩) (meth := k9m1) (c := k9c1) (by decide +kernel) rfl rfl rfl (by decide +kernel)
set_option maxRecDepth 65536 in
theorem w_c2 : (Jvm.Cond.code ({ cls := "java/lang/String", name := "<init>", desc := "([CIILjava/lang/Void;)V" } : Jvm.MethodName) jdk_42_method_149_code (6 : Nat) (Option.none : Option Jvm.ClassFile.FieldType)).before args0 about1 = true := code_word (m := ⟨9, 2⟩) (meth := k9m2) (c := k9c2) (by decide +kernel) rfl rfl rfl (by decide +kernel)
set_option maxRecDepth 65536 in
theorem w_c3 : (Jvm.Cond.code ({ cls := "java/lang/Object", name := "<init>", desc := "()V" } : Jvm.MethodName) object_method_1_code (1 : Nat) (Option.none : Option Jvm.ClassFile.FieldType)).before args0 about1 = true := code_word (m := ⟨0, 0⟩) (meth := k0m0) (c := k0c0) (by decide +kernel) rfl rfl rfl (by decide +kernel)
set_option maxRecDepth 65536 in
theorem w_c4 : (Jvm.Cond.code ({ cls := "java/lang/StringUTF16", name := "compress", desc := "([CII)[B" } : Jvm.MethodName) jdk_52_method_16_code (6 : Nat) (Option.some (Jvm.ClassFile.FieldType.array Jvm.ClassFile.FieldType.byte))).before args0 about1 = true := code_word (m := ⟨10, 2⟩) (meth := k10m2) (c := k10c2) (by decide +kernel) rfl rfl rfl (by decide +kernel)
set_option maxRecDepth 65536 in
theorem w_c5 : (Jvm.Cond.code ({ cls := "java/lang/StringUTF16", name := "compress", desc := "([CI[BII)I" } : Jvm.MethodName) jdk_52_method_21_code (7 : Nat) (Option.some Jvm.ClassFile.FieldType.int)).before args0 about1 = true := code_word (m := ⟨10, 3⟩) (meth := k10m3) (c := k10c3) (by decide +kernel) rfl rfl rfl (by decide +kernel)
set_option maxRecDepth 65536 in
theorem w_c6 : (Jvm.Cond.code ({ cls := "java/lang/StringUTF16", name := "coderFromArrayLen", desc := "([BI)B" } : Jvm.MethodName) jdk_52_method_15_code (2 : Nat) (Option.some Jvm.ClassFile.FieldType.byte)).before args0 about1 = true := code_word (m := ⟨10, 1⟩) (meth := k10m1) (c := k10c1) (by decide +kernel) rfl rfl rfl (by decide +kernel)
set_option maxRecDepth 65536 in
theorem w_c7 : (Jvm.Cond.code ({ cls := "com/example/egret/egret/service/Outcome", name := "<init>", desc := "(ILjava/lang/String;Ljava/lang/String;)V" } : Jvm.MethodName) prog_13_method_1_code (4 : Nat) (Option.none : Option Jvm.ClassFile.FieldType)).before args0 about1 = true := code_word (m := ⟨3, 0⟩) (meth := k3m0) (c := k3c0) (by decide +kernel) rfl rfl rfl (by decide +kernel)
set_option maxRecDepth 65536 in
theorem w_c8 : (Jvm.Cond.code ({ cls := "java/lang/Record", name := "<init>", desc := "()V" } : Jvm.MethodName) jdk_30_method_1_code (1 : Nat) (Option.none : Option Jvm.ClassFile.FieldType)).before args0 about1 = true := code_word (m := ⟨2, 0⟩) (meth := k2m0) (c := k2c0) (by decide +kernel) rfl rfl rfl (by decide +kernel)
set_option maxRecDepth 65536 in
theorem w_c9 : (Jvm.Cond.code ({ cls := "com/example/egret/egret/service/Outcome", name := "delivered", desc := "()Z" } : Jvm.MethodName) prog_13_method_7_code (1 : Nat) (Option.some Jvm.ClassFile.FieldType.boolean)).before args0 about1 = true := code_word (m := ⟨3, 1⟩) (meth := k3m1) (c := k3c1) (by decide +kernel) rfl rfl rfl (by decide +kernel)
set_option maxRecDepth 65536 in
theorem w_c10 : (Jvm.Cond.code ({ cls := "com/example/egret/egret/service/OutcomeDeliveredPinLaw", name := "isSuccessStatus", desc := "(I)Z" } : Jvm.MethodName) method_2_code (1 : Nat) (Option.some Jvm.ClassFile.FieldType.boolean)).before args0 about1 = true := code_word (m := ⟨1, 1⟩) (meth := k1m1) (c := k1c1) (by decide +kernel) rfl rfl rfl (by decide +kernel)
def codes1 : List Jvm.Cond := [Jvm.Cond.code x code maxLocals ret, Jvm.Cond.code ({ cls := "java/lang/String", name := "<init>", desc := "([C)V" } : Jvm.MethodName) jdk_42_method_3_code (2 : Nat) (Option.none : Option Jvm.ClassFile.FieldType), Jvm.Cond.code ({ cls := "java/lang/String", name := "<init>", desc := "([CIILjava/lang/Void;)V" } : Jvm.MethodName) jdk_42_method_149_code (6 : Nat) (Option.none : Option Jvm.ClassFile.FieldType), Jvm.Cond.code ({ cls := "java/lang/Object", name := "<init>", desc := "()V" } : Jvm.MethodName) object_method_1_code (1 : Nat) (Option.none : Option Jvm.ClassFile.FieldType), Jvm.Cond.code ({ cls := "java/lang/StringUTF16", name := "compress", desc := "([CII)[B" } : Jvm.MethodName) jdk_52_method_16_code (6 : Nat) (Option.some (Jvm.ClassFile.FieldType.array Jvm.ClassFile.FieldType.byte)), Jvm.Cond.code ({ cls := "java/lang/StringUTF16", name := "compress", desc := "([CI[BII)I" } : Jvm.MethodName) jdk_52_method_21_code (7 : Nat) (Option.some Jvm.ClassFile.FieldType.int), Jvm.Cond.code ({ cls := "java/lang/StringUTF16", name := "coderFromArrayLen", desc := "([BI)B" } : Jvm.MethodName) jdk_52_method_15_code (2 : Nat) (Option.some Jvm.ClassFile.FieldType.byte), Jvm.Cond.code ({ cls := "com/example/egret/egret/service/Outcome", name := "<init>", desc := "(ILjava/lang/String;Ljava/lang/String;)V" } : Jvm.MethodName) prog_13_method_1_code (4 : Nat) (Option.none : Option Jvm.ClassFile.FieldType), Jvm.Cond.code ({ cls := "java/lang/Record", name := "<init>", desc := "()V" } : Jvm.MethodName) jdk_30_method_1_code (1 : Nat) (Option.none : Option Jvm.ClassFile.FieldType), Jvm.Cond.code ({ cls := "com/example/egret/egret/service/Outcome", name := "delivered", desc := "()Z" } : Jvm.MethodName) prog_13_method_7_code (1 : Nat) (Option.some Jvm.ClassFile.FieldType.boolean), Jvm.Cond.code ({ cls := "com/example/egret/egret/service/OutcomeDeliveredPinLaw", name := "isSuccessStatus", desc := "(I)Z" } : Jvm.MethodName) method_2_code (1 : Nat) (Option.some Jvm.ClassFile.FieldType.boolean)]
set_option maxRecDepth 65536 in
theorem codes_eq : words1.filter isCode = codes1 := rfl
theorem w_codes : ∀ c ∈ words1.filter isCode, c.before args0 about1 = true := by
  rw [codes_eq]
  intro c hc
  simp only [codes1, List.mem_cons, List.not_mem_nil, or_false] at hc
  rcases hc with rfl | rfl | rfl | rfl | rfl | rfl | rfl | rfl | rfl | rfl | rfl
  · exact w_c0
  · exact w_c1
  · exact w_c2
  · exact w_c3
  · exact w_c4
  · exact w_c5
  · exact w_c6
  · exact w_c7
  · exact w_c8
  · exact w_c9
  · exact w_c10
set_option maxRecDepth 65536 in
theorem w_t1 : (words1.take 24).all (fun c => isCode c || c.before args0 about1) = true := by decide +kernel
set_option maxRecDepth 65536 in
theorem w_t2 : ((words1.drop 24).take 24).all (fun c => isCode c || c.before args0 about1) = true := by decide +kernel
set_option maxRecDepth 65536 in
theorem w_t3 : ((words1.drop 24).drop 24).all (fun c => isCode c || c.before args0 about1) = true := by decide +kernel
theorem w_tables : (allAtoms (Jvm.Cond.code x code maxLocals ret :: tables_1)).before args0 about1 = true := by
  rw [allAtoms_all]
  show words1.all (fun c => c.before args0 about1) = true
  refine all_split ?_ w_codes
  rw [← List.take_append_drop 24 words1, List.all_append, w_t1, ← List.take_append_drop 24 (words1.drop 24), List.all_append, w_t2, w_t3]
  rfl
set_option maxRecDepth 65536 in
theorem w_rest : rest_1_c.before args0 about1 = true := by decide +kernel
set_option maxRecDepth 65536 in
theorem w_case : (Jvm.Cond.and given_1 narrow_1).before args0 about1 = true := by decide +kernel
theorem w_applies : (headSpec (Jvm.Cond.code x code maxLocals ret :: tables_1) room_1).applies x e0.platform about1 = true :=
  (Spec.applies_iff w_frames).mpr ⟨w_running, w_runnable, w_alone, w_named, w_hears, w_ripe, w_room, w_tables⟩
theorem atStart : AtStart classFile x code maxLocals ret World_1 tables_1 room_1 Calls_1 rest_1 Pre_1 launch0 p0 e0 about1 theMethod args0 below0 :=
  ⟨lists_1, trivial, launch0.admits_env _ _ _, launch0.least_env, fairChoices_fair.cas, fairChoices_fair.clock, w_frames, w_args, w_heap, w_applies, trivial, w_rest, w_case⟩
end start1
theorem witness_1 : WitnessClaimed_1 := ⟨start1.p0, start1.e0, start1.about1, start1.theMethod, start1.args0, start1.below0, start1.atStart⟩
end Jvm.Pilot.@@N@@
