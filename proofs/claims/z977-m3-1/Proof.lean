import JvmDerived
import JvmDerived.Pilot.@@N@@Statement
import JvmDerived.Pilot.@@N@@Code
set_option linter.unusedVariables false
set_option linter.unusedSimpArgs false
namespace Jvm.Pilot.@@N@@
open Jvm Jvm.ClassFile Sem Op Lib Jvm.Free Jvm.Stand Jvm.LawKit Jvm.RoadKit Bundle Jvm.Pilot.@@N@@.Jvm.D
def G (p : Program) (l : Launch) (e : Env) (R : Room) (s : State) (m : MethodId) (args : Array Value) (below : List Frame) (meth : Method) (c : Code) (n0 : Nat) (Q : Option Value → Heap → Prop) (h : Heap) (k n : Nat) (pc : Nat) (Ls : Array Slot) (st : List Value) : Prop :=
  ∀ T locs cells slots, Stand p l e R s m args below meth c T locs cells slots → Fr n0 locs → T.heap = h → cells ≤ k → slots ≤ n →
    ∃ s₂ o, Steps p.tables e below (T.setTop (mkF m pc Ls st)) s₂ ∧ s₂.status = .running ∧ Ended s₂ below o ∧ ∃ v L, o = .returned v ∧ (Q v s₂.heap ∧ Fr n0 L) ∧ FrameEnd s o s₂ L R.cells R.slots
def Cx (Z : State) (p : Program) (s : State) (m : MethodId) (meth : Method) (c : Code) (R : Room) (k n : Nat) (own nm : String) (code : ByteArray) (maxL : Nat) (ret : Option FieldType) : Prop :=
  p.tables.exec = Jvm.exec ∧ Z.Warmed39 s.vm ∧ s.vm.findClass own = some m.cls ∧ c.code = code ∧ c.maxLocals = maxL ∧ meth.sig.returnType = ret ∧ meth.name = nm ∧ meth.locks = false
def Dc (code : ByteArray) (pc : Nat) (i : Instr) (len pc' : Nat) : Prop := decode code pc = .ok (i, len) ∧ pc + len = pc'
def Bi (code : ByteArray) (pc : Nat) (f : Int → Instr) (pcY pcN : Nat) : Prop := ∃ o, decode code pc = .ok (f o, 3) ∧ 0 ≤ (pc : Int) + o ∧ ((pc : Int) + o).toNat = pcY ∧ pc + 3 = pcN
def Met (l : Launch) (Z : State) (y : MethodName) (bytes : ByteArray) (maxL : Nat) (ret : Option FieldType) (rm : Room) (as : Array Value) (h0 : Heap) (Q : Option Value → Heap → Prop) : Prop :=
  ∀ ws, MetFree l y (head1 (Jvm.Cond.code y bytes maxL ret :: ws) rm) (fun a U => a = as ∧ Z.Warmed39 U.vm ∧ U.heap = h0) (fun _ _ _ _ _ => True) (fun _ U o U' => ∃ v L, o = .returned v ∧ (Q v U'.heap ∧ Fr Z.heap.size L) ∧ FrameEnd U o U' L rm.cells rm.slots)

def Arx (Z : State) (h : Heap) (a : Addr) (k : ClassId) (ty : FieldType) (z : Int32) (vs : List Value) (dv : Value) (ad : String) : Prop := Arv Z h a k ty z vs dv ∧ Exa Z h a ad
section ArxS
variable {Z : State} {h h' : Heap} {a x : Addr} {k : ClassId} {ty : FieldType} {z : Int32} {vs vs' : List Value} {dv w : Value} {ad : String} {sl : Nat} {ws : List Addr}
theorem Arx.ext (F : Arx Z h a k ty z vs dv ad) (E : Ext h h') : Arx Z h' a k ty z vs dv ad := ⟨F.1.ext E, F.2.ext E⟩
theorem Arx.other (F : Arx Z h a k ty z vs dv ad) (W : Wr h h' x sl w) (q : a ≠ x) : Arx Z h' a k ty z vs dv ad := ⟨F.1.other W q, F.2.wr W⟩
theorem Arx.keep (F : Arx Z h a k ty z vs dv ad) (K : Keep h h' ws) (q : a ∉ ws) : Arx Z h' a k ty z vs dv ad := ⟨F.1.keep K q, F.2.keep K⟩
theorem Arx.lt (F : Arx Z h a k ty z vs dv ad) : a < h.size := F.1.lt
theorem Arx.pad (F : Arx Z h a k ty z vs dv ad) (q : ∀ i, vs'.getD i dv = vs.getD i dv) : Arx Z h a k ty z vs' dv ad := ⟨F.1.pad q, F.2⟩
theorem sto_of {C : String} {y : Addr} (A : Arx Z h a k ty z vs dv ad) (O : Ovr Z k C) (I : Ins Z h y C true) : Sto Z h a (.ref y) := by
  obtain ⟨⟨c, Ar, q, -⟩, -⟩ := A; exact Sto.ofV Ar q O I
theorem sto_ofA {C : String} {y : Addr} {t : FieldType} (A : Arx Z h a k ty z vs dv ad) (O : OvrA Z k t C) (I : Ins Z h y C true) : Sto Z h a (.ref y) := by
  obtain ⟨⟨c, Ar, q, -⟩, -⟩ := A; exact Sto.ofVA Ar q O I
end ArxS
section Walk
variable {p : Program} {l : Launch} {e : Env} {R : Room} {s : State} {m : MethodId} {args : Array Value} {below : List Frame} {meth : Method} {c : Code} {Z : State} {a0 : Array Value} {k n : Nat} {own nm : String} {code : ByteArray} {maxL : Nat} {ret : Option FieldType} {n0 : Nat} {Q : Option Value → Heap → Prop} {h : Heap} {pc pc' pcY pcN : Nat} {Ls : Array Slot} {st rest : List Value}
theorem G.mono {k' n' : Nat} (H : G p l e R s m args below meth c Z.heap.size Q h k n pc Ls st) (hk : k' ≤ k) (hn : n' ≤ n) : G p l e R s m args below meth c Z.heap.size Q h k' n' pc Ls st :=
  fun T locs cells slots X N eT a b => H T locs cells slots X N eT (Nat.le_trans a hk) (Nat.le_trans b hn)
theorem G.cast {st' : List Value} (H : G p l e R s m args below meth c Z.heap.size Q h k n pc Ls st') (q : st = st') : G p l e R s m args below meth c Z.heap.size Q h k n pc Ls st := q ▸ H
theorem G.post {Q' : Option Value → Heap → Prop} (H : G p l e R s m args below meth c Z.heap.size Q h k n pc Ls st) (q : ∀ v h, Q v h → Q' v h) : G p l e R s m args below meth c Z.heap.size Q' h k n pc Ls st :=
  fun T locs cells slots X N eT a b => by
    obtain ⟨s₂, o, h1, h2, h3, v, L, h4, ⟨h5, h6⟩, h7⟩ := H T locs cells slots X N eT a b
    exact ⟨s₂, o, h1, h2, h3, v, L, h4, ⟨q _ _ h5, h6⟩, h7⟩
theorem met_of {y : MethodName} {bytes : ByteArray} {rm : Room} {as : Array Value} {h0 : Heap} (pn : plainFor y = true) (ef : ∀ m, entryFrame m as maxL = mkF m 0 Ls [])
    (body : ∀ p e s m below meth c, Cx Z p s m meth c rm 0 0 y.cls y.name bytes maxL ret → G p l e rm s m as below meth c Z.heap.size Q h0 0 0 0 Ls []) : Met l Z y bytes maxL ret rm as h0 Q := by
  intro ws
  refine MetFree.of_bodySF pn hisR ?_
  intro p e s m args below meth c s₁ Bd hml0 hP hK
  obtain ⟨rfl, hZ, hh⟩ := hP
  have e0 : s₁.heap = h0 := by rw [← hh, Bd.state]; rfl
  have X0 : Stand p l e rm s m args below meth c s₁ [] 0 0 := Stand.of_body Bd
  rw [ef m]
  exact body p e s m below meth c ⟨Bd.exec, hZ, findClass_of_methodNamed Bd.named, Bd.bytes, hml0, Bd.returns, (name_of_methodNamed Bd.named Bd.method).1, BodyLoose.notSynchronized Bd⟩ s₁ [] 0 0 X0 (Fr.nil _) e0 (Nat.le_refl _) (Nat.le_refl _)
theorem g_iloadN {kx nx : Nat} (cx : Cx Z p s m meth c R kx nx own nm code maxL ret) {i : Fin 4} {v : Int32} (d : Dc code pc (.iload_n i) 1 pc') (hl : Ls[i.val]? = some (.val (.int v))) (H : G p l e R s m args below meth c Z.heap.size Q h k n pc' Ls (.int v :: st)) : G p l e R s m args below meth c Z.heap.size Q h k n pc Ls st := by
  obtain ⟨hx, hZ, hown, rfl, hml, hret, hnm, -⟩ := cx
  obtain ⟨d, rfl⟩ := d
  intro T locs cells slots X N eT hk hn
  obtain ⟨s₂, o, st2, r⟩ := H T locs cells slots X N eT hk hn
  exact ⟨s₂, o, Jvm.Free.XS.iloadN X.here hx rfl d hl st2, r⟩
theorem g_iload {kx nx : Nat} (cx : Cx Z p s m meth c R kx nx own nm code maxL ret) {i : Nat} {v : Int32} (d : Dc code pc (.iload i) 2 pc') (hl : Ls[i]? = some (.val (.int v))) (H : G p l e R s m args below meth c Z.heap.size Q h k n pc' Ls (.int v :: st)) : G p l e R s m args below meth c Z.heap.size Q h k n pc Ls st := by
  obtain ⟨hx, hZ, hown, rfl, hml, hret, hnm, -⟩ := cx
  obtain ⟨d, rfl⟩ := d
  intro T locs cells slots X N eT hk hn
  obtain ⟨s₂, o, st2, r⟩ := H T locs cells slots X N eT hk hn
  exact ⟨s₂, o, Jvm.Free.XS.iload X.here hx rfl d hl st2, r⟩
theorem g_istoreN {kx nx : Nat} (cx : Cx Z p s m meth c R kx nx own nm code maxL ret) {i : Fin 4} {v : Int32} {Ls' : Array Slot} (d : Dc code pc (.istore_n i) 1 pc') (hl : storeLocals Ls i.val (.int v) = some Ls') (H : G p l e R s m args below meth c Z.heap.size Q h k n pc' Ls' st) : G p l e R s m args below meth c Z.heap.size Q h k n pc Ls (.int v :: st) := by
  obtain ⟨hx, hZ, hown, rfl, hml, hret, hnm, -⟩ := cx
  obtain ⟨d, rfl⟩ := d
  intro T locs cells slots X N eT hk hn
  obtain ⟨s₂, o, st2, r⟩ := H T locs cells slots X N eT hk hn
  exact ⟨s₂, o, Jvm.Free.XS.istoreN X.here hx rfl d rfl hl st2, r⟩
theorem g_istore {kx nx : Nat} (cx : Cx Z p s m meth c R kx nx own nm code maxL ret) {i : Nat} {v : Int32} {Ls' : Array Slot} (d : Dc code pc (.istore i) 2 pc') (hl : storeLocals Ls i (.int v) = some Ls') (H : G p l e R s m args below meth c Z.heap.size Q h k n pc' Ls' st) : G p l e R s m args below meth c Z.heap.size Q h k n pc Ls (.int v :: st) := by
  obtain ⟨hx, hZ, hown, rfl, hml, hret, hnm, -⟩ := cx
  obtain ⟨d, rfl⟩ := d
  intro T locs cells slots X N eT hk hn
  obtain ⟨s₂, o, st2, r⟩ := H T locs cells slots X N eT hk hn
  exact ⟨s₂, o, Jvm.Free.XS.istore X.here hx rfl d rfl hl st2, r⟩
theorem g_lloadN {kx nx : Nat} (cx : Cx Z p s m meth c R kx nx own nm code maxL ret) {i : Fin 4} {v : Int64} (d : Dc code pc (.lload_n i) 1 pc') (hl : Ls[i.val]? = some (.val (.long v))) (H : G p l e R s m args below meth c Z.heap.size Q h k n pc' Ls (.long v :: st)) : G p l e R s m args below meth c Z.heap.size Q h k n pc Ls st := by
  obtain ⟨hx, hZ, hown, rfl, hml, hret, hnm, -⟩ := cx
  obtain ⟨d, rfl⟩ := d
  intro T locs cells slots X N eT hk hn
  obtain ⟨s₂, o, st2, r⟩ := H T locs cells slots X N eT hk hn
  exact ⟨s₂, o, Jvm.Free.XS.lloadN X.here hx rfl d hl st2, r⟩
theorem g_lload {kx nx : Nat} (cx : Cx Z p s m meth c R kx nx own nm code maxL ret) {i : Nat} {v : Int64} (d : Dc code pc (.lload i) 2 pc') (hl : Ls[i]? = some (.val (.long v))) (H : G p l e R s m args below meth c Z.heap.size Q h k n pc' Ls (.long v :: st)) : G p l e R s m args below meth c Z.heap.size Q h k n pc Ls st := by
  obtain ⟨hx, hZ, hown, rfl, hml, hret, hnm, -⟩ := cx
  obtain ⟨d, rfl⟩ := d
  intro T locs cells slots X N eT hk hn
  obtain ⟨s₂, o, st2, r⟩ := H T locs cells slots X N eT hk hn
  exact ⟨s₂, o, Jvm.Free.XS.lload X.here hx rfl d hl st2, r⟩
theorem g_lstoreN {kx nx : Nat} (cx : Cx Z p s m meth c R kx nx own nm code maxL ret) {i : Fin 4} {v : Int64} {Ls' : Array Slot} (d : Dc code pc (.lstore_n i) 1 pc') (hl : storeLocals Ls i.val (.long v) = some Ls') (H : G p l e R s m args below meth c Z.heap.size Q h k n pc' Ls' st) : G p l e R s m args below meth c Z.heap.size Q h k n pc Ls (.long v :: st) := by
  obtain ⟨hx, hZ, hown, rfl, hml, hret, hnm, -⟩ := cx
  obtain ⟨d, rfl⟩ := d
  intro T locs cells slots X N eT hk hn
  obtain ⟨s₂, o, st2, r⟩ := H T locs cells slots X N eT hk hn
  exact ⟨s₂, o, Jvm.Free.XS.lstoreN X.here hx rfl d rfl hl st2, r⟩
theorem g_lstore {kx nx : Nat} (cx : Cx Z p s m meth c R kx nx own nm code maxL ret) {i : Nat} {v : Int64} {Ls' : Array Slot} (d : Dc code pc (.lstore i) 2 pc') (hl : storeLocals Ls i (.long v) = some Ls') (H : G p l e R s m args below meth c Z.heap.size Q h k n pc' Ls' st) : G p l e R s m args below meth c Z.heap.size Q h k n pc Ls (.long v :: st) := by
  obtain ⟨hx, hZ, hown, rfl, hml, hret, hnm, -⟩ := cx
  obtain ⟨d, rfl⟩ := d
  intro T locs cells slots X N eT hk hn
  obtain ⟨s₂, o, st2, r⟩ := H T locs cells slots X N eT hk hn
  exact ⟨s₂, o, Jvm.Free.XS.lstore X.here hx rfl d rfl hl st2, r⟩
theorem g_aloadN {kx nx : Nat} (cx : Cx Z p s m meth c R kx nx own nm code maxL ret) {i : Fin 4} {v : Value} (d : Dc code pc (.aload_n i) 1 pc') (hl : Ls[i.val]? = some (.val v)) (hv : v.isRef = true) (H : G p l e R s m args below meth c Z.heap.size Q h k n pc' Ls (v :: st)) : G p l e R s m args below meth c Z.heap.size Q h k n pc Ls st := by
  obtain ⟨hx, hZ, hown, rfl, hml, hret, hnm, -⟩ := cx
  obtain ⟨d, rfl⟩ := d
  intro T locs cells slots X N eT hk hn
  obtain ⟨s₂, o, st2, r⟩ := H T locs cells slots X N eT hk hn
  exact ⟨s₂, o, Jvm.Free.XS.aloadN X.here hx rfl d hl hv st2, r⟩
theorem g_aload {kx nx : Nat} (cx : Cx Z p s m meth c R kx nx own nm code maxL ret) {i : Nat} {v : Value} (d : Dc code pc (.aload i) 2 pc') (hl : Ls[i]? = some (.val v)) (hv : v.isRef = true) (H : G p l e R s m args below meth c Z.heap.size Q h k n pc' Ls (v :: st)) : G p l e R s m args below meth c Z.heap.size Q h k n pc Ls st := by
  obtain ⟨hx, hZ, hown, rfl, hml, hret, hnm, -⟩ := cx
  obtain ⟨d, rfl⟩ := d
  intro T locs cells slots X N eT hk hn
  obtain ⟨s₂, o, st2, r⟩ := H T locs cells slots X N eT hk hn
  exact ⟨s₂, o, Jvm.Free.XS.aload X.here hx rfl d hl hv st2, r⟩
theorem g_astoreN {kx nx : Nat} (cx : Cx Z p s m meth c R kx nx own nm code maxL ret) {i : Fin 4} {v : Value} {Ls' : Array Slot} (d : Dc code pc (.astore_n i) 1 pc') (hv : v.isRef = true) (hl : storeLocals Ls i.val v = some Ls') (H : G p l e R s m args below meth c Z.heap.size Q h k n pc' Ls' st) : G p l e R s m args below meth c Z.heap.size Q h k n pc Ls (v :: st) := by
  obtain ⟨hx, hZ, hown, rfl, hml, hret, hnm, -⟩ := cx
  obtain ⟨d, rfl⟩ := d
  intro T locs cells slots X N eT hk hn
  obtain ⟨s₂, o, st2, r⟩ := H T locs cells slots X N eT hk hn
  exact ⟨s₂, o, Jvm.Free.XS.astoreN X.here hx rfl d rfl hv hl st2, r⟩
theorem g_astore {kx nx : Nat} (cx : Cx Z p s m meth c R kx nx own nm code maxL ret) {i : Nat} {v : Value} {Ls' : Array Slot} (d : Dc code pc (.astore i) 2 pc') (hv : v.isRef = true) (hl : storeLocals Ls i v = some Ls') (H : G p l e R s m args below meth c Z.heap.size Q h k n pc' Ls' st) : G p l e R s m args below meth c Z.heap.size Q h k n pc Ls (v :: st) := by
  obtain ⟨hx, hZ, hown, rfl, hml, hret, hnm, -⟩ := cx
  obtain ⟨d, rfl⟩ := d
  intro T locs cells slots X N eT hk hn
  obtain ⟨s₂, o, st2, r⟩ := H T locs cells slots X N eT hk hn
  exact ⟨s₂, o, Jvm.Free.XS.astore X.here hx rfl d rfl hv hl st2, r⟩
theorem g_iconst {kx nx : Nat} (cx : Cx Z p s m meth c R kx nx own nm code maxL ret) {i : Int} {v : Int32} (d : Dc code pc (.iconst i) 1 pc') (hv : Int32.ofInt i = v) (H : G p l e R s m args below meth c Z.heap.size Q h k n pc' Ls (.int v :: st)) : G p l e R s m args below meth c Z.heap.size Q h k n pc Ls st := by
  obtain ⟨hx, hZ, hown, rfl, hml, hret, hnm, -⟩ := cx
  obtain ⟨d, rfl⟩ := d
  intro T locs cells slots X N eT hk hn
  obtain ⟨s₂, o, st2, r⟩ := H T locs cells slots X N eT hk hn
  exact ⟨s₂, o, Jvm.Free.XS.iconst X.here hx rfl d (by rw [hv]; exact st2), r⟩
theorem g_bipush {kx nx : Nat} (cx : Cx Z p s m meth c R kx nx own nm code maxL ret) {i : Int} {v : Int32} (d : Dc code pc (.bipush i) 2 pc') (hv : (Int8.ofInt i).toInt32 = v) (H : G p l e R s m args below meth c Z.heap.size Q h k n pc' Ls (.int v :: st)) : G p l e R s m args below meth c Z.heap.size Q h k n pc Ls st := by
  obtain ⟨hx, hZ, hown, rfl, hml, hret, hnm, -⟩ := cx
  obtain ⟨d, rfl⟩ := d
  intro T locs cells slots X N eT hk hn
  obtain ⟨s₂, o, st2, r⟩ := H T locs cells slots X N eT hk hn
  exact ⟨s₂, o, Jvm.Free.XS.bipush X.here hx rfl d (by rw [hv]; exact st2), r⟩
theorem g_sipush {kx nx : Nat} (cx : Cx Z p s m meth c R kx nx own nm code maxL ret) {i : Int} {v : Int32} (d : Dc code pc (.sipush i) 3 pc') (hv : (Int16.ofInt i).toInt32 = v) (H : G p l e R s m args below meth c Z.heap.size Q h k n pc' Ls (.int v :: st)) : G p l e R s m args below meth c Z.heap.size Q h k n pc Ls st := by
  obtain ⟨hx, hZ, hown, rfl, hml, hret, hnm, -⟩ := cx
  obtain ⟨d, rfl⟩ := d
  intro T locs cells slots X N eT hk hn
  obtain ⟨s₂, o, st2, r⟩ := H T locs cells slots X N eT hk hn
  exact ⟨s₂, o, Jvm.Free.XS.sipush X.here hx rfl d (by rw [hv]; exact st2), r⟩
theorem g_lconst {kx nx : Nat} (cx : Cx Z p s m meth c R kx nx own nm code maxL ret) {i : Fin 2} {v : Int64} (d : Dc code pc (.lconst i) 1 pc') (hv : Int64.ofNat i = v) (H : G p l e R s m args below meth c Z.heap.size Q h k n pc' Ls (.long v :: st)) : G p l e R s m args below meth c Z.heap.size Q h k n pc Ls st := by
  obtain ⟨hx, hZ, hown, rfl, hml, hret, hnm, -⟩ := cx
  obtain ⟨d, rfl⟩ := d
  intro T locs cells slots X N eT hk hn
  obtain ⟨s₂, o, st2, r⟩ := H T locs cells slots X N eT hk hn
  exact ⟨s₂, o, Jvm.Free.XS.lconst X.here hx rfl d (by rw [hv]; exact st2), r⟩
theorem g_aconst_null {kx nx : Nat} (cx : Cx Z p s m meth c R kx nx own nm code maxL ret)  (d : Dc code pc .aconst_null 1 pc') (H : G p l e R s m args below meth c Z.heap.size Q h k n pc' Ls (.null :: st)) : G p l e R s m args below meth c Z.heap.size Q h k n pc Ls st := by
  obtain ⟨hx, hZ, hown, rfl, hml, hret, hnm, -⟩ := cx
  obtain ⟨d, rfl⟩ := d
  intro T locs cells slots X N eT hk hn
  obtain ⟨s₂, o, st2, r⟩ := H T locs cells slots X N eT hk hn
  exact ⟨s₂, o, Jvm.Free.XS.aconstNull X.here hx rfl d  st2, r⟩
theorem g_iadd {kx nx : Nat} (cx : Cx Z p s m meth c R kx nx own nm code maxL ret) {x y : Int32} (d : Dc code pc .iadd 1 pc') (H : G p l e R s m args below meth c Z.heap.size Q h k n pc' Ls (.int (x + y) :: st)) : G p l e R s m args below meth c Z.heap.size Q h k n pc Ls (.int y :: .int x :: st) := by
  obtain ⟨hx, hZ, hown, rfl, hml, hret, hnm, -⟩ := cx
  obtain ⟨d, rfl⟩ := d
  intro T locs cells slots X N eT hk hn
  obtain ⟨s₂, o, st2, r⟩ := H T locs cells slots X N eT hk hn
  exact ⟨s₂, o, Jvm.Free.XS.iadd X.here hx rfl d rfl st2, r⟩
theorem g_ladd {kx nx : Nat} (cx : Cx Z p s m meth c R kx nx own nm code maxL ret) {x y : Int64} (d : Dc code pc .ladd 1 pc') (H : G p l e R s m args below meth c Z.heap.size Q h k n pc' Ls (.long (x + y) :: st)) : G p l e R s m args below meth c Z.heap.size Q h k n pc Ls (.long y :: .long x :: st) := by
  obtain ⟨hx, hZ, hown, rfl, hml, hret, hnm, -⟩ := cx
  obtain ⟨d, rfl⟩ := d
  intro T locs cells slots X N eT hk hn
  obtain ⟨s₂, o, st2, r⟩ := H T locs cells slots X N eT hk hn
  exact ⟨s₂, o, Jvm.Free.XS.ladd X.here hx rfl d rfl st2, r⟩
theorem g_isub {kx nx : Nat} (cx : Cx Z p s m meth c R kx nx own nm code maxL ret) {x y : Int32} (d : Dc code pc .isub 1 pc') (H : G p l e R s m args below meth c Z.heap.size Q h k n pc' Ls (.int (x - y) :: st)) : G p l e R s m args below meth c Z.heap.size Q h k n pc Ls (.int y :: .int x :: st) := by
  obtain ⟨hx, hZ, hown, rfl, hml, hret, hnm, -⟩ := cx
  obtain ⟨d, rfl⟩ := d
  intro T locs cells slots X N eT hk hn
  obtain ⟨s₂, o, st2, r⟩ := H T locs cells slots X N eT hk hn
  exact ⟨s₂, o, Jvm.Free.XS.isub X.here hx rfl d rfl st2, r⟩
theorem g_lsub {kx nx : Nat} (cx : Cx Z p s m meth c R kx nx own nm code maxL ret) {x y : Int64} (d : Dc code pc .lsub 1 pc') (H : G p l e R s m args below meth c Z.heap.size Q h k n pc' Ls (.long (x - y) :: st)) : G p l e R s m args below meth c Z.heap.size Q h k n pc Ls (.long y :: .long x :: st) := by
  obtain ⟨hx, hZ, hown, rfl, hml, hret, hnm, -⟩ := cx
  obtain ⟨d, rfl⟩ := d
  intro T locs cells slots X N eT hk hn
  obtain ⟨s₂, o, st2, r⟩ := H T locs cells slots X N eT hk hn
  exact ⟨s₂, o, Jvm.Free.XS.lsub X.here hx rfl d rfl st2, r⟩
theorem g_imul {kx nx : Nat} (cx : Cx Z p s m meth c R kx nx own nm code maxL ret) {x y : Int32} (d : Dc code pc .imul 1 pc') (H : G p l e R s m args below meth c Z.heap.size Q h k n pc' Ls (.int (x * y) :: st)) : G p l e R s m args below meth c Z.heap.size Q h k n pc Ls (.int y :: .int x :: st) := by
  obtain ⟨hx, hZ, hown, rfl, hml, hret, hnm, -⟩ := cx
  obtain ⟨d, rfl⟩ := d
  intro T locs cells slots X N eT hk hn
  obtain ⟨s₂, o, st2, r⟩ := H T locs cells slots X N eT hk hn
  exact ⟨s₂, o, Jvm.Free.XS.imul X.here hx rfl d rfl st2, r⟩
theorem g_lmul {kx nx : Nat} (cx : Cx Z p s m meth c R kx nx own nm code maxL ret) {x y : Int64} (d : Dc code pc .lmul 1 pc') (H : G p l e R s m args below meth c Z.heap.size Q h k n pc' Ls (.long (x * y) :: st)) : G p l e R s m args below meth c Z.heap.size Q h k n pc Ls (.long y :: .long x :: st) := by
  obtain ⟨hx, hZ, hown, rfl, hml, hret, hnm, -⟩ := cx
  obtain ⟨d, rfl⟩ := d
  intro T locs cells slots X N eT hk hn
  obtain ⟨s₂, o, st2, r⟩ := H T locs cells slots X N eT hk hn
  exact ⟨s₂, o, Jvm.Free.XS.lmul X.here hx rfl d rfl st2, r⟩
theorem g_iand {kx nx : Nat} (cx : Cx Z p s m meth c R kx nx own nm code maxL ret) {x y : Int32} (d : Dc code pc .iand 1 pc') (H : G p l e R s m args below meth c Z.heap.size Q h k n pc' Ls (.int (x &&& y) :: st)) : G p l e R s m args below meth c Z.heap.size Q h k n pc Ls (.int y :: .int x :: st) := by
  obtain ⟨hx, hZ, hown, rfl, hml, hret, hnm, -⟩ := cx
  obtain ⟨d, rfl⟩ := d
  intro T locs cells slots X N eT hk hn
  obtain ⟨s₂, o, st2, r⟩ := H T locs cells slots X N eT hk hn
  exact ⟨s₂, o, Jvm.Free.XS.iand X.here hx rfl d rfl st2, r⟩
theorem g_land {kx nx : Nat} (cx : Cx Z p s m meth c R kx nx own nm code maxL ret) {x y : Int64} (d : Dc code pc .land 1 pc') (H : G p l e R s m args below meth c Z.heap.size Q h k n pc' Ls (.long (x &&& y) :: st)) : G p l e R s m args below meth c Z.heap.size Q h k n pc Ls (.long y :: .long x :: st) := by
  obtain ⟨hx, hZ, hown, rfl, hml, hret, hnm, -⟩ := cx
  obtain ⟨d, rfl⟩ := d
  intro T locs cells slots X N eT hk hn
  obtain ⟨s₂, o, st2, r⟩ := H T locs cells slots X N eT hk hn
  exact ⟨s₂, o, Jvm.Free.XS.land X.here hx rfl d rfl st2, r⟩
theorem g_ior {kx nx : Nat} (cx : Cx Z p s m meth c R kx nx own nm code maxL ret) {x y : Int32} (d : Dc code pc .ior 1 pc') (H : G p l e R s m args below meth c Z.heap.size Q h k n pc' Ls (.int (x ||| y) :: st)) : G p l e R s m args below meth c Z.heap.size Q h k n pc Ls (.int y :: .int x :: st) := by
  obtain ⟨hx, hZ, hown, rfl, hml, hret, hnm, -⟩ := cx
  obtain ⟨d, rfl⟩ := d
  intro T locs cells slots X N eT hk hn
  obtain ⟨s₂, o, st2, r⟩ := H T locs cells slots X N eT hk hn
  exact ⟨s₂, o, Jvm.Free.XS.ior X.here hx rfl d rfl st2, r⟩
theorem g_lor {kx nx : Nat} (cx : Cx Z p s m meth c R kx nx own nm code maxL ret) {x y : Int64} (d : Dc code pc .lor 1 pc') (H : G p l e R s m args below meth c Z.heap.size Q h k n pc' Ls (.long (x ||| y) :: st)) : G p l e R s m args below meth c Z.heap.size Q h k n pc Ls (.long y :: .long x :: st) := by
  obtain ⟨hx, hZ, hown, rfl, hml, hret, hnm, -⟩ := cx
  obtain ⟨d, rfl⟩ := d
  intro T locs cells slots X N eT hk hn
  obtain ⟨s₂, o, st2, r⟩ := H T locs cells slots X N eT hk hn
  exact ⟨s₂, o, Jvm.Free.XS.lor X.here hx rfl d rfl st2, r⟩
theorem g_ixor {kx nx : Nat} (cx : Cx Z p s m meth c R kx nx own nm code maxL ret) {x y : Int32} (d : Dc code pc .ixor 1 pc') (H : G p l e R s m args below meth c Z.heap.size Q h k n pc' Ls (.int (x ^^^ y) :: st)) : G p l e R s m args below meth c Z.heap.size Q h k n pc Ls (.int y :: .int x :: st) := by
  obtain ⟨hx, hZ, hown, rfl, hml, hret, hnm, -⟩ := cx
  obtain ⟨d, rfl⟩ := d
  intro T locs cells slots X N eT hk hn
  obtain ⟨s₂, o, st2, r⟩ := H T locs cells slots X N eT hk hn
  exact ⟨s₂, o, Jvm.Free.XS.ixor X.here hx rfl d rfl st2, r⟩
theorem g_lxor {kx nx : Nat} (cx : Cx Z p s m meth c R kx nx own nm code maxL ret) {x y : Int64} (d : Dc code pc .lxor 1 pc') (H : G p l e R s m args below meth c Z.heap.size Q h k n pc' Ls (.long (x ^^^ y) :: st)) : G p l e R s m args below meth c Z.heap.size Q h k n pc Ls (.long y :: .long x :: st) := by
  obtain ⟨hx, hZ, hown, rfl, hml, hret, hnm, -⟩ := cx
  obtain ⟨d, rfl⟩ := d
  intro T locs cells slots X N eT hk hn
  obtain ⟨s₂, o, st2, r⟩ := H T locs cells slots X N eT hk hn
  exact ⟨s₂, o, Jvm.Free.XS.lxor X.here hx rfl d rfl st2, r⟩
theorem g_ishl {kx nx : Nat} (cx : Cx Z p s m meth c R kx nx own nm code maxL ret) {x : Int32} {y : Int32} (d : Dc code pc .ishl 1 pc') (H : G p l e R s m args below meth c Z.heap.size Q h k n pc' Ls (.int (x <<< (y &&& 31)) :: st)) : G p l e R s m args below meth c Z.heap.size Q h k n pc Ls (.int y :: .int x :: st) := by
  obtain ⟨hx, hZ, hown, rfl, hml, hret, hnm, -⟩ := cx
  obtain ⟨d, rfl⟩ := d
  intro T locs cells slots X N eT hk hn
  obtain ⟨s₂, o, st2, r⟩ := H T locs cells slots X N eT hk hn
  exact ⟨s₂, o, Jvm.Free.XS.ishl X.here hx rfl d rfl st2, r⟩
theorem g_ishr {kx nx : Nat} (cx : Cx Z p s m meth c R kx nx own nm code maxL ret) {x : Int32} {y : Int32} (d : Dc code pc .ishr 1 pc') (H : G p l e R s m args below meth c Z.heap.size Q h k n pc' Ls (.int (x >>> (y &&& 31)) :: st)) : G p l e R s m args below meth c Z.heap.size Q h k n pc Ls (.int y :: .int x :: st) := by
  obtain ⟨hx, hZ, hown, rfl, hml, hret, hnm, -⟩ := cx
  obtain ⟨d, rfl⟩ := d
  intro T locs cells slots X N eT hk hn
  obtain ⟨s₂, o, st2, r⟩ := H T locs cells slots X N eT hk hn
  exact ⟨s₂, o, Jvm.Free.XS.ishr X.here hx rfl d rfl st2, r⟩
theorem g_iushr {kx nx : Nat} (cx : Cx Z p s m meth c R kx nx own nm code maxL ret) {x : Int32} {y : Int32} (d : Dc code pc .iushr 1 pc') (H : G p l e R s m args below meth c Z.heap.size Q h k n pc' Ls (.int ((x.toUInt32 >>> (y &&& 31).toUInt32).toInt32) :: st)) : G p l e R s m args below meth c Z.heap.size Q h k n pc Ls (.int y :: .int x :: st) := by
  obtain ⟨hx, hZ, hown, rfl, hml, hret, hnm, -⟩ := cx
  obtain ⟨d, rfl⟩ := d
  intro T locs cells slots X N eT hk hn
  obtain ⟨s₂, o, st2, r⟩ := H T locs cells slots X N eT hk hn
  exact ⟨s₂, o, Jvm.Free.XS.iushr X.here hx rfl d rfl st2, r⟩
theorem g_lshl {kx nx : Nat} (cx : Cx Z p s m meth c R kx nx own nm code maxL ret) {x : Int64} {y : Int32} (d : Dc code pc .lshl 1 pc') (H : G p l e R s m args below meth c Z.heap.size Q h k n pc' Ls (.long (x <<< (y &&& 0x3f).toInt64) :: st)) : G p l e R s m args below meth c Z.heap.size Q h k n pc Ls (.int y :: .long x :: st) := by
  obtain ⟨hx, hZ, hown, rfl, hml, hret, hnm, -⟩ := cx
  obtain ⟨d, rfl⟩ := d
  intro T locs cells slots X N eT hk hn
  obtain ⟨s₂, o, st2, r⟩ := H T locs cells slots X N eT hk hn
  exact ⟨s₂, o, Jvm.Free.XS.lshl X.here hx rfl d rfl st2, r⟩
theorem g_lshr {kx nx : Nat} (cx : Cx Z p s m meth c R kx nx own nm code maxL ret) {x : Int64} {y : Int32} (d : Dc code pc .lshr 1 pc') (H : G p l e R s m args below meth c Z.heap.size Q h k n pc' Ls (.long (x >>> (y &&& 0x3f).toInt64) :: st)) : G p l e R s m args below meth c Z.heap.size Q h k n pc Ls (.int y :: .long x :: st) := by
  obtain ⟨hx, hZ, hown, rfl, hml, hret, hnm, -⟩ := cx
  obtain ⟨d, rfl⟩ := d
  intro T locs cells slots X N eT hk hn
  obtain ⟨s₂, o, st2, r⟩ := H T locs cells slots X N eT hk hn
  exact ⟨s₂, o, Jvm.Free.XS.lshr X.here hx rfl d rfl st2, r⟩
theorem g_lushr {kx nx : Nat} (cx : Cx Z p s m meth c R kx nx own nm code maxL ret) {x : Int64} {y : Int32} (d : Dc code pc .lushr 1 pc') (H : G p l e R s m args below meth c Z.heap.size Q h k n pc' Ls (.long ((x.toUInt64 >>> (y &&& 0x3f).toInt64.toUInt64).toInt64) :: st)) : G p l e R s m args below meth c Z.heap.size Q h k n pc Ls (.int y :: .long x :: st) := by
  obtain ⟨hx, hZ, hown, rfl, hml, hret, hnm, -⟩ := cx
  obtain ⟨d, rfl⟩ := d
  intro T locs cells slots X N eT hk hn
  obtain ⟨s₂, o, st2, r⟩ := H T locs cells slots X N eT hk hn
  exact ⟨s₂, o, Jvm.Free.XS.lushr X.here hx rfl d rfl st2, r⟩
theorem g_ineg {kx nx : Nat} (cx : Cx Z p s m meth c R kx nx own nm code maxL ret) {x : Int32} (d : Dc code pc .ineg 1 pc') (H : G p l e R s m args below meth c Z.heap.size Q h k n pc' Ls (.int (-x) :: st)) : G p l e R s m args below meth c Z.heap.size Q h k n pc Ls (.int x :: st) := by
  obtain ⟨hx, hZ, hown, rfl, hml, hret, hnm, -⟩ := cx
  obtain ⟨d, rfl⟩ := d
  intro T locs cells slots X N eT hk hn
  obtain ⟨s₂, o, st2, r⟩ := H T locs cells slots X N eT hk hn
  exact ⟨s₂, o, Jvm.Free.XS.ineg X.here hx rfl d rfl st2, r⟩
theorem g_lneg {kx nx : Nat} (cx : Cx Z p s m meth c R kx nx own nm code maxL ret) {x : Int64} (d : Dc code pc .lneg 1 pc') (H : G p l e R s m args below meth c Z.heap.size Q h k n pc' Ls (.long (-x) :: st)) : G p l e R s m args below meth c Z.heap.size Q h k n pc Ls (.long x :: st) := by
  obtain ⟨hx, hZ, hown, rfl, hml, hret, hnm, -⟩ := cx
  obtain ⟨d, rfl⟩ := d
  intro T locs cells slots X N eT hk hn
  obtain ⟨s₂, o, st2, r⟩ := H T locs cells slots X N eT hk hn
  exact ⟨s₂, o, Jvm.Free.XS.lneg X.here hx rfl d rfl st2, r⟩
theorem g_i2l {kx nx : Nat} (cx : Cx Z p s m meth c R kx nx own nm code maxL ret) {x : Int32} (d : Dc code pc .i2l 1 pc') (H : G p l e R s m args below meth c Z.heap.size Q h k n pc' Ls (.long (x.toInt64) :: st)) : G p l e R s m args below meth c Z.heap.size Q h k n pc Ls (.int x :: st) := by
  obtain ⟨hx, hZ, hown, rfl, hml, hret, hnm, -⟩ := cx
  obtain ⟨d, rfl⟩ := d
  intro T locs cells slots X N eT hk hn
  obtain ⟨s₂, o, st2, r⟩ := H T locs cells slots X N eT hk hn
  exact ⟨s₂, o, Jvm.Free.XS.i2l X.here hx rfl d rfl st2, r⟩
theorem g_l2i {kx nx : Nat} (cx : Cx Z p s m meth c R kx nx own nm code maxL ret) {x : Int64} (d : Dc code pc .l2i 1 pc') (H : G p l e R s m args below meth c Z.heap.size Q h k n pc' Ls (.int (x.toInt32) :: st)) : G p l e R s m args below meth c Z.heap.size Q h k n pc Ls (.long x :: st) := by
  obtain ⟨hx, hZ, hown, rfl, hml, hret, hnm, -⟩ := cx
  obtain ⟨d, rfl⟩ := d
  intro T locs cells slots X N eT hk hn
  obtain ⟨s₂, o, st2, r⟩ := H T locs cells slots X N eT hk hn
  exact ⟨s₂, o, Jvm.Free.XS.l2i X.here hx rfl d rfl st2, r⟩
theorem g_i2b {kx nx : Nat} (cx : Cx Z p s m meth c R kx nx own nm code maxL ret) {x : Int32} (d : Dc code pc .i2b 1 pc') (H : G p l e R s m args below meth c Z.heap.size Q h k n pc' Ls (.int (x.toInt8.toInt32) :: st)) : G p l e R s m args below meth c Z.heap.size Q h k n pc Ls (.int x :: st) := by
  obtain ⟨hx, hZ, hown, rfl, hml, hret, hnm, -⟩ := cx
  obtain ⟨d, rfl⟩ := d
  intro T locs cells slots X N eT hk hn
  obtain ⟨s₂, o, st2, r⟩ := H T locs cells slots X N eT hk hn
  exact ⟨s₂, o, Jvm.Free.XS.i2b X.here hx rfl d rfl st2, r⟩
theorem g_i2s {kx nx : Nat} (cx : Cx Z p s m meth c R kx nx own nm code maxL ret) {x : Int32} (d : Dc code pc .i2s 1 pc') (H : G p l e R s m args below meth c Z.heap.size Q h k n pc' Ls (.int (x.toInt16.toInt32) :: st)) : G p l e R s m args below meth c Z.heap.size Q h k n pc Ls (.int x :: st) := by
  obtain ⟨hx, hZ, hown, rfl, hml, hret, hnm, -⟩ := cx
  obtain ⟨d, rfl⟩ := d
  intro T locs cells slots X N eT hk hn
  obtain ⟨s₂, o, st2, r⟩ := H T locs cells slots X N eT hk hn
  exact ⟨s₂, o, Jvm.Free.XS.i2s X.here hx rfl d rfl st2, r⟩
theorem g_i2c {kx nx : Nat} (cx : Cx Z p s m meth c R kx nx own nm code maxL ret) {x : Int32} (d : Dc code pc .i2c 1 pc') (H : G p l e R s m args below meth c Z.heap.size Q h k n pc' Ls (.int (x.toUInt32.toUInt16.toUInt32.toInt32) :: st)) : G p l e R s m args below meth c Z.heap.size Q h k n pc Ls (.int x :: st) := by
  obtain ⟨hx, hZ, hown, rfl, hml, hret, hnm, -⟩ := cx
  obtain ⟨d, rfl⟩ := d
  intro T locs cells slots X N eT hk hn
  obtain ⟨s₂, o, st2, r⟩ := H T locs cells slots X N eT hk hn
  exact ⟨s₂, o, Jvm.Free.XS.i2c X.here hx rfl d rfl st2, r⟩
theorem g_idiv {kx nx : Nat} (cx : Cx Z p s m meth c R kx nx own nm code maxL ret) {x y : Int32} (d : Dc code pc .idiv 1 pc') (hy : y ≠ 0) (H : G p l e R s m args below meth c Z.heap.size Q h k n pc' Ls (.int (x / y) :: st)) : G p l e R s m args below meth c Z.heap.size Q h k n pc Ls (.int y :: .int x :: st) := by
  obtain ⟨hx, hZ, hown, rfl, hml, hret, hnm, -⟩ := cx
  obtain ⟨d, rfl⟩ := d
  intro T locs cells slots X N eT hk hn
  obtain ⟨s₂, o, st2, r⟩ := H T locs cells slots X N eT hk hn
  exact ⟨s₂, o, Jvm.Free.XS.idiv X.here hx rfl d rfl hy st2, r⟩
theorem g_ldiv {kx nx : Nat} (cx : Cx Z p s m meth c R kx nx own nm code maxL ret) {x y : Int64} (d : Dc code pc .ldiv 1 pc') (hy : y ≠ 0) (H : G p l e R s m args below meth c Z.heap.size Q h k n pc' Ls (.long (x / y) :: st)) : G p l e R s m args below meth c Z.heap.size Q h k n pc Ls (.long y :: .long x :: st) := by
  obtain ⟨hx, hZ, hown, rfl, hml, hret, hnm, -⟩ := cx
  obtain ⟨d, rfl⟩ := d
  intro T locs cells slots X N eT hk hn
  obtain ⟨s₂, o, st2, r⟩ := H T locs cells slots X N eT hk hn
  exact ⟨s₂, o, Jvm.Free.XS.ldiv X.here hx rfl d rfl hy st2, r⟩
theorem g_irem {kx nx : Nat} (cx : Cx Z p s m meth c R kx nx own nm code maxL ret) {x y : Int32} (d : Dc code pc .irem 1 pc') (hy : y ≠ 0) (H : G p l e R s m args below meth c Z.heap.size Q h k n pc' Ls (.int (x % y) :: st)) : G p l e R s m args below meth c Z.heap.size Q h k n pc Ls (.int y :: .int x :: st) := by
  obtain ⟨hx, hZ, hown, rfl, hml, hret, hnm, -⟩ := cx
  obtain ⟨d, rfl⟩ := d
  intro T locs cells slots X N eT hk hn
  obtain ⟨s₂, o, st2, r⟩ := H T locs cells slots X N eT hk hn
  exact ⟨s₂, o, Jvm.Free.XS.irem X.here hx rfl d rfl hy (by rw [irem_eq_mod]; exact st2), r⟩
theorem g_lrem {kx nx : Nat} (cx : Cx Z p s m meth c R kx nx own nm code maxL ret) {x y : Int64} (d : Dc code pc .lrem 1 pc') (hy : y ≠ 0) (H : G p l e R s m args below meth c Z.heap.size Q h k n pc' Ls (.long (x % y) :: st)) : G p l e R s m args below meth c Z.heap.size Q h k n pc Ls (.long y :: .long x :: st) := by
  obtain ⟨hx, hZ, hown, rfl, hml, hret, hnm, -⟩ := cx
  obtain ⟨d, rfl⟩ := d
  intro T locs cells slots X N eT hk hn
  obtain ⟨s₂, o, st2, r⟩ := H T locs cells slots X N eT hk hn
  exact ⟨s₂, o, Jvm.Free.XS.lrem X.here hx rfl d rfl hy (by rw [lrem_mod]; exact st2), r⟩
theorem g_iinc {kx nx : Nat} (cx : Cx Z p s m meth c R kx nx own nm code maxL ret) {i : Nat} {z : Int} {x v : Int32} {Ls' : Array Slot} (d : Dc code pc (.iinc i z) 3 pc') (hl : Ls[i]? = some (.val (.int x))) (hv : Int32.ofInt z = v) (hl' : storeLocals Ls i (.int (x + v)) = some Ls') (H : G p l e R s m args below meth c Z.heap.size Q h k n pc' Ls' st) : G p l e R s m args below meth c Z.heap.size Q h k n pc Ls st := by
  obtain ⟨hx, hZ, hown, rfl, hml, hret, hnm, -⟩ := cx
  obtain ⟨d, rfl⟩ := d
  intro T locs cells slots X N eT hk hn
  obtain ⟨s₂, o, st2, r⟩ := H T locs cells slots X N eT hk hn
  exact ⟨s₂, o, Jvm.Free.XS.iinc X.here hx rfl d hl (by rw [hv]; exact hl') st2, r⟩
theorem g_dup {kx nx : Nat} (cx : Cx Z p s m meth c R kx nx own nm code maxL ret) {v : Value} (d : Dc code pc .dup 1 pc') (hc : v.category = 1) (H : G p l e R s m args below meth c Z.heap.size Q h k n pc' Ls (v :: v :: st)) : G p l e R s m args below meth c Z.heap.size Q h k n pc Ls (v :: st) := by
  obtain ⟨hx, hZ, hown, rfl, hml, hret, hnm, -⟩ := cx
  obtain ⟨d, rfl⟩ := d
  intro T locs cells slots X N eT hk hn
  obtain ⟨s₂, o, st2, r⟩ := H T locs cells slots X N eT hk hn
  exact ⟨s₂, o, Jvm.Free.XS.dup X.here hx rfl d rfl hc st2, r⟩
theorem g_pop {kx nx : Nat} (cx : Cx Z p s m meth c R kx nx own nm code maxL ret) {v : Value} (d : Dc code pc .pop 1 pc') (hc : v.category = 1) (H : G p l e R s m args below meth c Z.heap.size Q h k n pc' Ls st) : G p l e R s m args below meth c Z.heap.size Q h k n pc Ls (v :: st) := by
  obtain ⟨hx, hZ, hown, rfl, hml, hret, hnm, -⟩ := cx
  obtain ⟨d, rfl⟩ := d
  intro T locs cells slots X N eT hk hn
  obtain ⟨s₂, o, st2, r⟩ := H T locs cells slots X N eT hk hn
  exact ⟨s₂, o, Jvm.Free.XS.pop X.here hx rfl d rfl hc st2, r⟩
theorem g_dup_x1 {kx nx : Nat} (cx : Cx Z p s m meth c R kx nx own nm code maxL ret) {v w : Value} (d : Dc code pc .dup_x1 1 pc') (hc : v.category = 1) (hc2 : w.category = 1) (H : G p l e R s m args below meth c Z.heap.size Q h k n pc' Ls (v :: w :: v :: st)) : G p l e R s m args below meth c Z.heap.size Q h k n pc Ls (v :: w :: st) := by
  obtain ⟨hx, hZ, hown, rfl, hml, hret, hnm, -⟩ := cx
  obtain ⟨d, rfl⟩ := d
  intro T locs cells slots X N eT hk hn
  obtain ⟨s₂, o, st2, r⟩ := H T locs cells slots X N eT hk hn
  exact ⟨s₂, o, Jvm.Free.XS.dupX1 X.here hx rfl d rfl hc hc2 st2, r⟩
theorem g_dup2 {kx nx : Nat} (cx : Cx Z p s m meth c R kx nx own nm code maxL ret) {v w : Value} (d : Dc code pc .dup2 1 pc') (hc : v.category = 1) (hc2 : w.category = 1) (H : G p l e R s m args below meth c Z.heap.size Q h k n pc' Ls (v :: w :: v :: w :: st)) : G p l e R s m args below meth c Z.heap.size Q h k n pc Ls (v :: w :: st) := by
  obtain ⟨hx, hZ, hown, rfl, hml, hret, hnm, -⟩ := cx
  obtain ⟨d, rfl⟩ := d
  intro T locs cells slots X N eT hk hn
  obtain ⟨s₂, o, st2, r⟩ := H T locs cells slots X N eT hk hn
  exact ⟨s₂, o, Jvm.Free.XT.dup2 X.here hx rfl d rfl hc hc2 st2, r⟩
theorem g_dup2L {kx nx : Nat} (cx : Cx Z p s m meth c R kx nx own nm code maxL ret) {v : Int64} (d : Dc code pc .dup2 1 pc') (H : G p l e R s m args below meth c Z.heap.size Q h k n pc' Ls (.long v :: .long v :: st)) : G p l e R s m args below meth c Z.heap.size Q h k n pc Ls (.long v :: st) := by
  obtain ⟨hx, hZ, hown, rfl, hml, hret, hnm, -⟩ := cx
  obtain ⟨d, rfl⟩ := d
  intro T locs cells slots X N eT hk hn
  obtain ⟨s₂, o, st2, r⟩ := H T locs cells slots X N eT hk hn
  exact ⟨s₂, o, Jvm.Free.XT.dup2L X.here hx rfl d rfl st2, r⟩
theorem g_goto {kx nx : Nat} (cx : Cx Z p s m meth c R kx nx own nm code maxL ret) (d : Bi code pc Instr.goto pcY pcN) (H : G p l e R s m args below meth c Z.heap.size Q h k n pcY Ls st) : G p l e R s m args below meth c Z.heap.size Q h k n pc Ls st := by
  obtain ⟨hx, hZ, hown, rfl, hml, hret, hnm, -⟩ := cx
  obtain ⟨o', d, ho, rfl, rfl⟩ := d
  intro T locs cells slots X N eT hk hn
  obtain ⟨s₂, o, st2, r⟩ := H T locs cells slots X N eT hk hn
  exact ⟨s₂, o, Jvm.Free.XS.goto X.here hx rfl (pc0 := pc) rfl d ho rfl st2, r⟩
theorem g_ifB {kx nx : Nat} (cx : Cx Z p s m meth c R kx nx own nm code maxL ret) {cd : ClassFile.Cond} {x : Int32} (d : Bi code pc (Instr.ifCond cd) pcY pcN) (HY : if_icmp.holds cd x 0 = true → G p l e R s m args below meth c Z.heap.size Q h k n pcY Ls st) (HN : if_icmp.holds cd x 0 = false → G p l e R s m args below meth c Z.heap.size Q h k n pcN Ls st) : G p l e R s m args below meth c Z.heap.size Q h k n pc Ls (.int x :: st) := by
  obtain ⟨hx, hZ, hown, rfl, hml, hret, hnm, -⟩ := cx
  obtain ⟨o', d, ho, rfl, rfl⟩ := d
  intro T locs cells slots X N eT hk hn
  cases hc : if_icmp.holds cd x 0
  · obtain ⟨s₂, o, st2, r⟩ := HN hc T locs cells slots X N eT hk hn
    exact ⟨s₂, o, Jvm.Free.XS.ifNo X.here hx rfl d rfl ((if0 _ _).trans hc) st2, r⟩
  · obtain ⟨s₂, o, st2, r⟩ := HY hc T locs cells slots X N eT hk hn
    exact ⟨s₂, o, Jvm.Free.XS.ifYes X.here hx rfl (pc0 := pc) rfl d rfl ((if0 _ _).trans hc) ho rfl st2, r⟩
theorem g_icmpB {kx nx : Nat} (cx : Cx Z p s m meth c R kx nx own nm code maxL ret) {cd : ClassFile.Cond} {x y : Int32} (d : Bi code pc (Instr.if_icmp cd) pcY pcN) (HY : if_icmp.holds cd x y = true → G p l e R s m args below meth c Z.heap.size Q h k n pcY Ls st) (HN : if_icmp.holds cd x y = false → G p l e R s m args below meth c Z.heap.size Q h k n pcN Ls st) : G p l e R s m args below meth c Z.heap.size Q h k n pc Ls (.int y :: .int x :: st) := by
  obtain ⟨hx, hZ, hown, rfl, hml, hret, hnm, -⟩ := cx
  obtain ⟨o', d, ho, rfl, rfl⟩ := d
  intro T locs cells slots X N eT hk hn
  cases hc : if_icmp.holds cd x y
  · obtain ⟨s₂, o, st2, r⟩ := HN hc T locs cells slots X N eT hk hn
    exact ⟨s₂, o, Jvm.Free.XS.icmpNo X.here hx rfl d rfl hc st2, r⟩
  · obtain ⟨s₂, o, st2, r⟩ := HY hc T locs cells slots X N eT hk hn
    exact ⟨s₂, o, Jvm.Free.XS.icmpYes X.here hx rfl (pc0 := pc) rfl d rfl hc ho rfl st2, r⟩
theorem h_eq {x y : Int32} : if_icmp.holds .eq x y = decide (x = y) := by by_cases h : x = y <;> simp [if_icmp.holds, h]
theorem h_ne {x y : Int32} : if_icmp.holds .ne x y = !decide (x = y) := by by_cases h : x = y <;> simp [if_icmp.holds, h]
theorem h_lt {x y : Int32} : if_icmp.holds .lt x y = decide (x < y) := by by_cases h : x < y <;> simp [if_icmp.holds, h]
theorem h_ge {x y : Int32} : if_icmp.holds .ge x y = !decide (x < y) := by by_cases h : x < y <;> simp [if_icmp.holds, h, Int32.not_le.mpr, Int32.not_lt.mp]
theorem h_gt {x y : Int32} : if_icmp.holds .gt x y = decide (y < x) := by by_cases h : y < x <;> simp [if_icmp.holds, h]
theorem h_le {x y : Int32} : if_icmp.holds .le x y = !decide (y < x) := by by_cases h : y < x <;> simp [if_icmp.holds, h, Int32.not_le.mpr, Int32.not_lt.mp]
theorem g_if_eq {kx nx : Nat} (cx : Cx Z p s m meth c R kx nx own nm code maxL ret) {x : Int32} (d : Bi code pc (Instr.ifCond .eq) pcY pcN) (HY : x = 0 → G p l e R s m args below meth c Z.heap.size Q h k n pcY Ls st) (HN : ¬ x = 0 → G p l e R s m args below meth c Z.heap.size Q h k n pcN Ls st) : G p l e R s m args below meth c Z.heap.size Q h k n pc Ls (.int x :: st) :=
  g_ifB cx d (fun q => HY (by rw [h_eq] at q; simpa using q)) (fun q => HN (by rw [h_eq] at q; simpa using q))
theorem g_icmp_eq {kx nx : Nat} (cx : Cx Z p s m meth c R kx nx own nm code maxL ret) {x y : Int32} (d : Bi code pc (Instr.if_icmp .eq) pcY pcN) (HY : x = y → G p l e R s m args below meth c Z.heap.size Q h k n pcY Ls st) (HN : ¬ x = y → G p l e R s m args below meth c Z.heap.size Q h k n pcN Ls st) : G p l e R s m args below meth c Z.heap.size Q h k n pc Ls (.int y :: .int x :: st) :=
  g_icmpB cx d (fun q => HY (by rw [h_eq] at q; simpa using q)) (fun q => HN (by rw [h_eq] at q; simpa using q))
theorem g_if_ne {kx nx : Nat} (cx : Cx Z p s m meth c R kx nx own nm code maxL ret) {x : Int32} (d : Bi code pc (Instr.ifCond .ne) pcY pcN) (HY : ¬ x = 0 → G p l e R s m args below meth c Z.heap.size Q h k n pcY Ls st) (HN : x = 0 → G p l e R s m args below meth c Z.heap.size Q h k n pcN Ls st) : G p l e R s m args below meth c Z.heap.size Q h k n pc Ls (.int x :: st) :=
  g_ifB cx d (fun q => HY (by rw [h_ne] at q; simpa using q)) (fun q => HN (by rw [h_ne] at q; simpa using q))
theorem g_icmp_ne {kx nx : Nat} (cx : Cx Z p s m meth c R kx nx own nm code maxL ret) {x y : Int32} (d : Bi code pc (Instr.if_icmp .ne) pcY pcN) (HY : ¬ x = y → G p l e R s m args below meth c Z.heap.size Q h k n pcY Ls st) (HN : x = y → G p l e R s m args below meth c Z.heap.size Q h k n pcN Ls st) : G p l e R s m args below meth c Z.heap.size Q h k n pc Ls (.int y :: .int x :: st) :=
  g_icmpB cx d (fun q => HY (by rw [h_ne] at q; simpa using q)) (fun q => HN (by rw [h_ne] at q; simpa using q))
theorem g_if_lt {kx nx : Nat} (cx : Cx Z p s m meth c R kx nx own nm code maxL ret) {x : Int32} (d : Bi code pc (Instr.ifCond .lt) pcY pcN) (HY : x < 0 → G p l e R s m args below meth c Z.heap.size Q h k n pcY Ls st) (HN : ¬ x < 0 → G p l e R s m args below meth c Z.heap.size Q h k n pcN Ls st) : G p l e R s m args below meth c Z.heap.size Q h k n pc Ls (.int x :: st) :=
  g_ifB cx d (fun q => HY (by rw [h_lt] at q; simpa using q)) (fun q => HN (by rw [h_lt] at q; simpa using q))
theorem g_icmp_lt {kx nx : Nat} (cx : Cx Z p s m meth c R kx nx own nm code maxL ret) {x y : Int32} (d : Bi code pc (Instr.if_icmp .lt) pcY pcN) (HY : x < y → G p l e R s m args below meth c Z.heap.size Q h k n pcY Ls st) (HN : ¬ x < y → G p l e R s m args below meth c Z.heap.size Q h k n pcN Ls st) : G p l e R s m args below meth c Z.heap.size Q h k n pc Ls (.int y :: .int x :: st) :=
  g_icmpB cx d (fun q => HY (by rw [h_lt] at q; simpa using q)) (fun q => HN (by rw [h_lt] at q; simpa using q))
theorem g_if_ge {kx nx : Nat} (cx : Cx Z p s m meth c R kx nx own nm code maxL ret) {x : Int32} (d : Bi code pc (Instr.ifCond .ge) pcY pcN) (HY : ¬ x < 0 → G p l e R s m args below meth c Z.heap.size Q h k n pcY Ls st) (HN : x < 0 → G p l e R s m args below meth c Z.heap.size Q h k n pcN Ls st) : G p l e R s m args below meth c Z.heap.size Q h k n pc Ls (.int x :: st) :=
  g_ifB cx d (fun q => HY (by rw [h_ge] at q; simpa using q)) (fun q => HN (by rw [h_ge] at q; simpa using q))
theorem g_icmp_ge {kx nx : Nat} (cx : Cx Z p s m meth c R kx nx own nm code maxL ret) {x y : Int32} (d : Bi code pc (Instr.if_icmp .ge) pcY pcN) (HY : ¬ x < y → G p l e R s m args below meth c Z.heap.size Q h k n pcY Ls st) (HN : x < y → G p l e R s m args below meth c Z.heap.size Q h k n pcN Ls st) : G p l e R s m args below meth c Z.heap.size Q h k n pc Ls (.int y :: .int x :: st) :=
  g_icmpB cx d (fun q => HY (by rw [h_ge] at q; simpa using q)) (fun q => HN (by rw [h_ge] at q; simpa using q))
theorem g_if_gt {kx nx : Nat} (cx : Cx Z p s m meth c R kx nx own nm code maxL ret) {x : Int32} (d : Bi code pc (Instr.ifCond .gt) pcY pcN) (HY : 0 < x → G p l e R s m args below meth c Z.heap.size Q h k n pcY Ls st) (HN : ¬ 0 < x → G p l e R s m args below meth c Z.heap.size Q h k n pcN Ls st) : G p l e R s m args below meth c Z.heap.size Q h k n pc Ls (.int x :: st) :=
  g_ifB cx d (fun q => HY (by rw [h_gt] at q; simpa using q)) (fun q => HN (by rw [h_gt] at q; simpa using q))
theorem g_icmp_gt {kx nx : Nat} (cx : Cx Z p s m meth c R kx nx own nm code maxL ret) {x y : Int32} (d : Bi code pc (Instr.if_icmp .gt) pcY pcN) (HY : y < x → G p l e R s m args below meth c Z.heap.size Q h k n pcY Ls st) (HN : ¬ y < x → G p l e R s m args below meth c Z.heap.size Q h k n pcN Ls st) : G p l e R s m args below meth c Z.heap.size Q h k n pc Ls (.int y :: .int x :: st) :=
  g_icmpB cx d (fun q => HY (by rw [h_gt] at q; simpa using q)) (fun q => HN (by rw [h_gt] at q; simpa using q))
theorem g_if_le {kx nx : Nat} (cx : Cx Z p s m meth c R kx nx own nm code maxL ret) {x : Int32} (d : Bi code pc (Instr.ifCond .le) pcY pcN) (HY : ¬ 0 < x → G p l e R s m args below meth c Z.heap.size Q h k n pcY Ls st) (HN : 0 < x → G p l e R s m args below meth c Z.heap.size Q h k n pcN Ls st) : G p l e R s m args below meth c Z.heap.size Q h k n pc Ls (.int x :: st) :=
  g_ifB cx d (fun q => HY (by rw [h_le] at q; simpa using q)) (fun q => HN (by rw [h_le] at q; simpa using q))
theorem g_icmp_le {kx nx : Nat} (cx : Cx Z p s m meth c R kx nx own nm code maxL ret) {x y : Int32} (d : Bi code pc (Instr.if_icmp .le) pcY pcN) (HY : ¬ y < x → G p l e R s m args below meth c Z.heap.size Q h k n pcY Ls st) (HN : y < x → G p l e R s m args below meth c Z.heap.size Q h k n pcN Ls st) : G p l e R s m args below meth c Z.heap.size Q h k n pc Ls (.int y :: .int x :: st) :=
  g_icmpB cx d (fun q => HY (by rw [h_le] at q; simpa using q)) (fun q => HN (by rw [h_le] at q; simpa using q))
theorem g_lcmp {kx nx : Nat} (cx : Cx Z p s m meth c R kx nx own nm code maxL ret) {x y : Int64} (d : Dc code pc .lcmp 1 pc') (H : G p l e R s m args below meth c Z.heap.size Q h k n pc' Ls (.int (lcmpW x y) :: st)) : G p l e R s m args below meth c Z.heap.size Q h k n pc Ls (.long y :: .long x :: st) := by
  obtain ⟨hx, hZ, hown, rfl, hml, hret, hnm, -⟩ := cx
  obtain ⟨d, rfl⟩ := d
  intro T locs cells slots X N eT hk hn
  obtain ⟨s₂, o, st2, r⟩ := H T locs cells slots X N eT hk hn
  exact ⟨s₂, o, Jvm.Free.XS.lcmp X.here hx rfl d rfl st2, r⟩
theorem g_lif_eq {kx nx : Nat} (cx : Cx Z p s m meth c R kx nx own nm code maxL ret) {x y : Int64} (d0 : Dc code pc .lcmp 1 pc') (d : Bi code pc' (Instr.ifCond .eq) pcY pcN) (HY : x = y → G p l e R s m args below meth c Z.heap.size Q h k n pcY Ls st) (HN : ¬ x = y → G p l e R s m args below meth c Z.heap.size Q h k n pcN Ls st) : G p l e R s m args below meth c Z.heap.size Q h k n pc Ls (.long y :: .long x :: st) :=
  g_lcmp cx d0 (g_if_eq cx d (fun q => HY ((lw_eq x y).mp q)) (fun q => HN (fun z => q ((lw_eq x y).mpr z))))
theorem g_lif_ne {kx nx : Nat} (cx : Cx Z p s m meth c R kx nx own nm code maxL ret) {x y : Int64} (d0 : Dc code pc .lcmp 1 pc') (d : Bi code pc' (Instr.ifCond .ne) pcY pcN) (HY : ¬ x = y → G p l e R s m args below meth c Z.heap.size Q h k n pcY Ls st) (HN : x = y → G p l e R s m args below meth c Z.heap.size Q h k n pcN Ls st) : G p l e R s m args below meth c Z.heap.size Q h k n pc Ls (.long y :: .long x :: st) :=
  g_lcmp cx d0 (g_if_ne cx d (fun q => HY (fun z => q ((lw_eq x y).mpr z))) (fun q => HN ((lw_eq x y).mp q)))
theorem g_lif_lt {kx nx : Nat} (cx : Cx Z p s m meth c R kx nx own nm code maxL ret) {x y : Int64} (d0 : Dc code pc .lcmp 1 pc') (d : Bi code pc' (Instr.ifCond .lt) pcY pcN) (HY : x < y → G p l e R s m args below meth c Z.heap.size Q h k n pcY Ls st) (HN : ¬ x < y → G p l e R s m args below meth c Z.heap.size Q h k n pcN Ls st) : G p l e R s m args below meth c Z.heap.size Q h k n pc Ls (.long y :: .long x :: st) :=
  g_lcmp cx d0 (g_if_lt cx d (fun q => HY ((lw_lt x y).mp q)) (fun q => HN (fun z => q ((lw_lt x y).mpr z))))
theorem g_lif_ge {kx nx : Nat} (cx : Cx Z p s m meth c R kx nx own nm code maxL ret) {x y : Int64} (d0 : Dc code pc .lcmp 1 pc') (d : Bi code pc' (Instr.ifCond .ge) pcY pcN) (HY : ¬ x < y → G p l e R s m args below meth c Z.heap.size Q h k n pcY Ls st) (HN : x < y → G p l e R s m args below meth c Z.heap.size Q h k n pcN Ls st) : G p l e R s m args below meth c Z.heap.size Q h k n pc Ls (.long y :: .long x :: st) :=
  g_lcmp cx d0 (g_if_ge cx d (fun q => HY (fun z => q ((lw_lt x y).mpr z))) (fun q => HN ((lw_lt x y).mp q)))
theorem g_lif_gt {kx nx : Nat} (cx : Cx Z p s m meth c R kx nx own nm code maxL ret) {x y : Int64} (d0 : Dc code pc .lcmp 1 pc') (d : Bi code pc' (Instr.ifCond .gt) pcY pcN) (HY : y < x → G p l e R s m args below meth c Z.heap.size Q h k n pcY Ls st) (HN : ¬ y < x → G p l e R s m args below meth c Z.heap.size Q h k n pcN Ls st) : G p l e R s m args below meth c Z.heap.size Q h k n pc Ls (.long y :: .long x :: st) :=
  g_lcmp cx d0 (g_if_gt cx d (fun q => HY ((lw_gt x y).mp q)) (fun q => HN (fun z => q ((lw_gt x y).mpr z))))
theorem g_lif_le {kx nx : Nat} (cx : Cx Z p s m meth c R kx nx own nm code maxL ret) {x y : Int64} (d0 : Dc code pc .lcmp 1 pc') (d : Bi code pc' (Instr.ifCond .le) pcY pcN) (HY : ¬ y < x → G p l e R s m args below meth c Z.heap.size Q h k n pcY Ls st) (HN : y < x → G p l e R s m args below meth c Z.heap.size Q h k n pcN Ls st) : G p l e R s m args below meth c Z.heap.size Q h k n pc Ls (.long y :: .long x :: st) :=
  g_lcmp cx d0 (g_if_le cx d (fun q => HY (fun z => q ((lw_gt x y).mpr z))) (fun q => HN ((lw_gt x y).mp q)))
theorem g_acmp {kx nx : Nat} (cx : Cx Z p s m meth c R kx nx own nm code maxL ret) {cd : ACond} {x y : Value} (h1 : x.isRef = true) (h2 : y.isRef = true) (d : Bi code pc (Instr.if_acmp cd) pcY pcN) (HY : x = y → G p l e R s m args below meth c Z.heap.size Q h k n (if acV cd true = true then pcY else pcN) Ls st) (HN : ¬ x = y → G p l e R s m args below meth c Z.heap.size Q h k n (if acV cd false = true then pcY else pcN) Ls st) : G p l e R s m args below meth c Z.heap.size Q h k n pc Ls (y :: x :: st) := by
  obtain ⟨hx, hZ, hown, rfl, hml, hret, hnm, -⟩ := cx
  obtain ⟨o', d, ho, rfl, rfl⟩ := d
  intro T locs cells slots X N eT hk hn
  by_cases hc : x = y
  · obtain ⟨s₂, o, st2, r⟩ := HY hc T locs cells slots X N eT hk hn
    exact ⟨s₂, o, Jvm.RoadKit.acmp (g := mkF m pc Ls (y :: x :: st)) X hx rfl h1 h2 (pc0 := pc) (same := true) rfl d rfl (decide_eq_true hc) ho rfl st2, r⟩
  · obtain ⟨s₂, o, st2, r⟩ := HN hc T locs cells slots X N eT hk hn
    exact ⟨s₂, o, Jvm.RoadKit.acmp (g := mkF m pc Ls (y :: x :: st)) X hx rfl h1 h2 (pc0 := pc) (same := false) rfl d rfl (decide_eq_false hc) ho rfl st2, r⟩
theorem g_acmp_eq {kx nx : Nat} (cx : Cx Z p s m meth c R kx nx own nm code maxL ret) {x y : Value} (h1 : x.isRef = true) (h2 : y.isRef = true) (d : Bi code pc (Instr.if_acmp .eq) pcY pcN) (HY : x = y → G p l e R s m args below meth c Z.heap.size Q h k n pcY Ls st) (HN : ¬ x = y → G p l e R s m args below meth c Z.heap.size Q h k n pcN Ls st) : G p l e R s m args below meth c Z.heap.size Q h k n pc Ls (y :: x :: st) := g_acmp cx h1 h2 d HY HN
theorem g_acmp_ne {kx nx : Nat} (cx : Cx Z p s m meth c R kx nx own nm code maxL ret) {x y : Value} (h1 : x.isRef = true) (h2 : y.isRef = true) (d : Bi code pc (Instr.if_acmp .ne) pcY pcN) (HY : ¬ x = y → G p l e R s m args below meth c Z.heap.size Q h k n pcY Ls st) (HN : x = y → G p l e R s m args below meth c Z.heap.size Q h k n pcN Ls st) : G p l e R s m args below meth c Z.heap.size Q h k n pc Ls (y :: x :: st) := g_acmp cx h1 h2 d HN HY
theorem g_ifnull_null {kx nx : Nat} (cx : Cx Z p s m meth c R kx nx own nm code maxL ret) (d : Bi code pc Instr.ifnull pcY pcN) (H : G p l e R s m args below meth c Z.heap.size Q h k n pcY Ls st) : G p l e R s m args below meth c Z.heap.size Q h k n pc Ls (.null :: st) := by
  obtain ⟨hx, hZ, hown, rfl, hml, hret, hnm, -⟩ := cx
  obtain ⟨o', d, ho, rfl, rfl⟩ := d
  intro T locs cells slots X N eT hk hn
  obtain ⟨s₂, o, st2, r⟩ := H T locs cells slots X N eT hk hn
  exact ⟨s₂, o, Jvm.Free.XS.ifnullYes X.here hx rfl (pc0 := pc) rfl d rfl ho rfl st2, r⟩
theorem g_ifnull_ref {kx nx : Nat} (cx : Cx Z p s m meth c R kx nx own nm code maxL ret) {a : Addr} (d : Bi code pc Instr.ifnull pcY pcN) (H : G p l e R s m args below meth c Z.heap.size Q h k n pcN Ls st) : G p l e R s m args below meth c Z.heap.size Q h k n pc Ls (.ref a :: st) := by
  obtain ⟨hx, hZ, hown, rfl, hml, hret, hnm, -⟩ := cx
  obtain ⟨o', d, ho, rfl, rfl⟩ := d
  intro T locs cells slots X N eT hk hn
  obtain ⟨s₂, o, st2, r⟩ := H T locs cells slots X N eT hk hn
  exact ⟨s₂, o, Jvm.Free.XS.ifnullNo X.here hx rfl d rfl st2, r⟩
theorem g_ifnonnull_ref {kx nx : Nat} (cx : Cx Z p s m meth c R kx nx own nm code maxL ret) {a : Addr} (d : Bi code pc Instr.ifnonnull pcY pcN) (H : G p l e R s m args below meth c Z.heap.size Q h k n pcY Ls st) : G p l e R s m args below meth c Z.heap.size Q h k n pc Ls (.ref a :: st) := by
  obtain ⟨hx, hZ, hown, rfl, hml, hret, hnm, -⟩ := cx
  obtain ⟨o', d, ho, rfl, rfl⟩ := d
  intro T locs cells slots X N eT hk hn
  obtain ⟨s₂, o, st2, r⟩ := H T locs cells slots X N eT hk hn
  exact ⟨s₂, o, Jvm.Free.XS.ifnonnullYes X.here hx rfl (pc0 := pc) rfl d rfl ho rfl st2, r⟩
theorem g_ifnonnull_null {kx nx : Nat} (cx : Cx Z p s m meth c R kx nx own nm code maxL ret) (d : Bi code pc Instr.ifnonnull pcY pcN) (H : G p l e R s m args below meth c Z.heap.size Q h k n pcN Ls st) : G p l e R s m args below meth c Z.heap.size Q h k n pc Ls (.null :: st) := by
  obtain ⟨hx, hZ, hown, rfl, hml, hret, hnm, -⟩ := cx
  obtain ⟨o', d, ho, rfl, rfl⟩ := d
  intro T locs cells slots X N eT hk hn
  obtain ⟨s₂, o, st2, r⟩ := H T locs cells slots X N eT hk hn
  exact ⟨s₂, o, Jvm.Free.XS.ifnonnullNo X.here hx rfl d rfl st2, r⟩
theorem g_ldcI {kx nx : Nat} (cx : Cx Z p s m meth c R kx nx own nm code maxL ret) {i : Nat} {v : Int32} (d : Dc code pc (.ldc i) 2 pc') (w : (Jvm.Cond.constant own i v).before a0 Z = true) (H : G p l e R s m args below meth c Z.heap.size Q h k n pc' Ls (.int v :: st)) : G p l e R s m args below meth c Z.heap.size Q h k n pc Ls st := by
  obtain ⟨hx, hZ, hown, rfl, hml, hret, hnm, -⟩ := cx
  obtain ⟨d, rfl⟩ := d
  intro T locs cells slots X N eT hk hn
  obtain ⟨s₂, o, st2, r⟩ := H T locs cells slots X N eT hk hn
  exact ⟨s₂, o, X.ldcInt hx hown (mvT hZ w) (g := mkF m pc Ls st) rfl d _ st2, r⟩
theorem g_ldcJ {kx nx : Nat} (cx : Cx Z p s m meth c R kx nx own nm code maxL ret) {i : Nat} {v : Int64} (d : Dc code pc (.ldc2_w i) 3 pc') (w : (Jvm.Cond.constantLong own i v).before a0 Z = true) (H : G p l e R s m args below meth c Z.heap.size Q h k n pc' Ls (.long v :: st)) : G p l e R s m args below meth c Z.heap.size Q h k n pc Ls st := by
  obtain ⟨hx, hZ, hown, rfl, hml, hret, hnm, -⟩ := cx
  obtain ⟨d, rfl⟩ := d
  intro T locs cells slots X N eT hk hn
  obtain ⟨s₂, o, st2, r⟩ := H T locs cells slots X N eT hk hn
  exact ⟨s₂, o, X.ldc2Long hx hown (mvT hZ w) (g := mkF m pc Ls st) rfl d _ st2, r⟩
theorem g_getF {kx nx : Nat} (cx : Cx Z p s m meth c R kx nx own nm code maxL ret) {R0 O f ds host : String} {i : Nat} {a : Addr} {v : Value} (d : Dc code pc (.getfield i) 3 pc') (w : (Jvm.Cond.fieldLink own i R0 f ds).before a0 Z = true ∨ (Jvm.Cond.fieldLinkNest own i R0 f ds host).before a0 Z = true) (via : Via Z R0 O f ds) (F : Fld Z h a O f ds v) (H : G p l e R s m args below meth c Z.heap.size Q h k n pc' Ls (v :: st)) : G p l e R s m args below meth c Z.heap.size Q h k n pc Ls (.ref a :: st) := by
  obtain ⟨hx, hZ, hown, rfl, hml, hret, hnm, -⟩ := cx
  obtain ⟨d, rfl⟩ := d
  intro T locs cells slots X N eT hk hn
  obtain ⟨T', X', e', stp⟩ := getF X hx hZ hown w via eT F (g := mkF m pc Ls (.ref a :: st)) rfl rfl d
  obtain ⟨s₂, o, st2, r⟩ := H T' locs cells slots X' N e' hk hn
  exact ⟨s₂, o, stp _ st2, r⟩
theorem g_getS {kx nx : Nat} (cx : Cx Z p s m meth c R kx nx own nm code maxL ret) {R0 O f ds host : String} {i : Nat} {v : Value} (d : Dc code pc (.getstatic i) 3 pc') (w : (Jvm.Cond.fieldLink own i R0 f ds).before a0 Z = true ∨ (Jvm.Cond.fieldLinkNest own i R0 f ds host).before a0 Z = true) (via : Via Z R0 O f ds) (F : Sta Z h O f ds v) (H : G p l e R s m args below meth c Z.heap.size Q h k n pc' Ls (v :: st)) : G p l e R s m args below meth c Z.heap.size Q h k n pc Ls st := by
  obtain ⟨hx, hZ, hown, rfl, hml, hret, hnm, -⟩ := cx
  obtain ⟨d, rfl⟩ := d
  intro T locs cells slots X N eT hk hn
  obtain ⟨T', X', e', stp⟩ := getS2 X hx hZ hown w via eT F (g := mkF m pc Ls st) rfl d
  obtain ⟨s₂, o, st2, r⟩ := H T' locs cells slots X' N e' hk hn
  exact ⟨s₂, o, stp _ st2, r⟩
theorem g_putF {kx nx : Nat} (cx : Cx Z p s m meth c R kx nx own nm code maxL ret) {R0 O f ds host C : String} {i kk : Nat} {ty : FieldType} {a : Addr} {v old : Value} (d : Dc code pc (.putfield i) 3 pc') (w : (Jvm.Cond.fieldLink own i R0 f ds).before a0 Z = true ∨ (Jvm.Cond.fieldLinkNest own i R0 f ds host).before a0 Z = true) (via : Via Z R0 O f ds) (F : Fld Z h a O f ds old) (E : Exa Z h a C)
    (L : (Jvm.Cond.lays C O f ds).before a0 Z = true ∨ ((Jvm.Cond.laysFinal C O f ds).before a0 Z = true ∧ own = O ∧ nm = "<init>")) (wi : (Jvm.Cond.instantiable C kk).before a0 Z = true) (hty : parseFieldDescriptor ds = some ty) (hnar : narrow ty v = v) (hfit : fits ty v = true) (g : Z.heap.size ≤ a)
    (H : ∀ h', Wr h h' a (Jvm.RoadKit.slotOf Z O f ds) v → G p l e R s m args below meth c Z.heap.size Q h' k n pc' Ls st) : G p l e R s m args below meth c Z.heap.size Q h k n pc Ls (v :: .ref a :: st) := by
  obtain ⟨hx, hZ, hown, rfl, hml, hret, rfl, -⟩ := cx
  obtain ⟨d, rfl⟩ := d
  intro T locs cells slots X N eT hk hn
  obtain ⟨T', h', X', e', W, stp⟩ := putF X hx hZ hown w via eT F E L wi hty hnar hfit (g := mkF m pc Ls (v :: .ref a :: st)) rfl rfl d
  obtain ⟨s₂, o, st2, r⟩ := H h' W T' _ cells slots X' (Fr.snoc X' N g) e' hk hn
  exact ⟨s₂, o, stp _ st2, r⟩
theorem g_putFN {kx nx : Nat} (cx : Cx Z p s m meth c R kx nx own nm code maxL ret) {R0 O f ds C : String} {i kk : Nat} {ty : FieldType} {a : Addr} {v v' old : Value} (d : Dc code pc (.putfield i) 3 pc') (w : (Jvm.Cond.fieldLink own i R0 f ds).before a0 Z = true) (via : Via Z R0 O f ds) (F : Fld Z h a O f ds old) (E : Exa Z h a C)
    (L : (Jvm.Cond.lays C O f ds).before a0 Z = true ∨ ((Jvm.Cond.laysFinal C O f ds).before a0 Z = true ∧ own = O ∧ nm = "<init>")) (wi : (Jvm.Cond.instantiable C kk).before a0 Z = true) (hty : parseFieldDescriptor ds = some ty) (hnar : narrow ty v = v') (hfit : fits ty v' = true) (g : Z.heap.size ≤ a)
    (H : ∀ h', Wr h h' a (Jvm.RoadKit.slotOf Z O f ds) v' → G p l e R s m args below meth c Z.heap.size Q h' k n pc' Ls st) : G p l e R s m args below meth c Z.heap.size Q h k n pc Ls (v :: .ref a :: st) := by
  obtain ⟨hx, hZ, hown, rfl, hml, hret, rfl, -⟩ := cx
  obtain ⟨d, rfl⟩ := d
  intro T locs cells slots X N eT hk hn
  obtain ⟨T', h', X', e', W, stp⟩ := putFN X hx hZ hown w via eT F E L wi hty hnar hfit (g := mkF m pc Ls (v :: .ref a :: st)) rfl rfl d
  obtain ⟨s₂, o, st2, r⟩ := H h' W T' _ cells slots X' (Fr.snoc X' N g) e' hk hn
  exact ⟨s₂, o, stp _ st2, r⟩
theorem g_new {kx nx : Nat} (cx : Cx Z p s m meth c R kx nx own nm code maxL ret) {C : String} {i sl : Nat} {k' n' : Nat} (d : Dc code pc (.new i) 3 pc') (w : (Jvm.Cond.classLink own i C).before a0 Z = true) (wi : (Jvm.Cond.instantiable C sl).before a0 Z = true) (wz : (Jvm.Cond.initialized C).before a0 Z = true) (hk1 : k + 1 = k') (hn1 : n + sl = n') (hkR : k' ≤ R.cells) (hnR : n' ≤ R.slots)
    (H : ∀ h' b, b = h.size → Ext h h' → Exa Z h' b C → (∀ {O nm d : String} {ty : FieldType}, Laid Z a0 C O nm d → parseFieldDescriptor d = some ty → Fld Z h' b O nm d (defaultValue ty)) → G p l e R s m args below meth c Z.heap.size Q h' k' n' pc' Ls (.ref b :: st)) : G p l e R s m args below meth c Z.heap.size Q h k n pc Ls st := by
  obtain ⟨hx, hZ, hown, rfl, hml, hret, hnm, -⟩ := cx
  obtain ⟨d, rfl⟩ := d
  subst hk1 hn1
  intro T locs cells slots X N eT hk hn
  obtain ⟨T', h', X', e', E, A, D, -, stp⟩ := newO X hx hZ hown w wi wz eT (g := mkF m pc Ls st) rfl d (by omega) (by omega)
  obtain ⟨s₂, o, st2, r⟩ := H h' _ rfl E A D T' locs _ _ X' N e' (by omega) (by omega)
  exact ⟨s₂, o, stp _ st2, r⟩
theorem g_newarray {kx nx : Nat} (cx : Cx Z p s m meth c R kx nx own nm code maxL ret) {aty : ArrayType} {z : Int32} {cap k' n' : Nat} {ad : String} (had : "[" ++ (newarray.typeOf aty).toString = ad) (d : Dc code pc (.newarray aty) 2 pc') (w : (Jvm.Cond.arrayClass (newarray.typeOf aty)).before a0 Z = true) (hz : ¬ z < 0) (hcap : z.toNatClampNeg ≤ cap) (hb : cap * 8 ≤ 536870912) (hk1 : k + 1 = k') (hn1 : n + cap = n') (hkR : k' ≤ R.cells) (hnR : n' ≤ R.slots)
    (H : ∀ h' b cA, b = h.size → Ext h h' → Arx Z h' b cA (newarray.typeOf aty) z [] (defaultValue (newarray.typeOf aty)) ad → G p l e R s m args below meth c Z.heap.size Q h' k' n' pc' Ls (.ref b :: st)) : G p l e R s m args below meth c Z.heap.size Q h k n pc Ls (.int z :: st) := by
  obtain ⟨hx, hZ, hown, rfl, hml, hret, hnm, -⟩ := cx
  obtain ⟨d, rfl⟩ := d
  subst hk1 hn1
  intro T locs cells slots X N eT hk hn
  obtain ⟨T', h', cA, X', e', E, A, Ex, stp⟩ := newPE X hx hZ w eT (g := mkF m pc Ls (.int z :: st)) rfl d rfl hz hcap hb (by omega) (by omega) had
  obtain ⟨s₂, o, st2, r⟩ := H h' _ cA rfl E ⟨Arv.new A hz, Ex⟩ T' locs _ _ X' N e' (by omega) (by omega)
  exact ⟨s₂, o, stp _ st2, r⟩
theorem g_anewarray {kx nx : Nat} (cx : Cx Z p s m meth c R kx nx own nm code maxL ret) {C ad : String} {i : Nat} {z : Int32} {cap k' n' : Nat} (had : "[" ++ (FieldType.object C).toString = ad) (d : Dc code pc (.anewarray i) 3 pc') (w1 : (Jvm.Cond.classLink own i C).before a0 Z = true) (w2 : (Jvm.Cond.arrayOver (.object C)).before a0 Z = true) (hz : ¬ z < 0) (hcap : z.toNatClampNeg ≤ cap) (hb : cap * 8 ≤ 536870912) (hk1 : k + 1 = k') (hn1 : n + cap = n') (hkR : k' ≤ R.cells) (hnR : n' ≤ R.slots)
    (H : ∀ h' b cA, b = h.size → Ext h h' → Arx Z h' b cA (.object C) z [] .null ad → Ovr Z cA C → G p l e R s m args below meth c Z.heap.size Q h' k' n' pc' Ls (.ref b :: st)) : G p l e R s m args below meth c Z.heap.size Q h k n pc Ls (.int z :: st) := by
  obtain ⟨hx, hZ, hown, rfl, hml, hret, hnm, -⟩ := cx
  obtain ⟨d, rfl⟩ := d
  subst hk1 hn1
  intro T locs cells slots X N eT hk hn
  obtain ⟨T', h', cA, X', e', E, A, Ex, O, stp⟩ := newRE X hx hZ hown w1 w2 eT (g := mkF m pc Ls (.int z :: st)) rfl d rfl hz hcap hb (by omega) (by omega) had
  obtain ⟨s₂, o, st2, r⟩ := H h' _ cA rfl E ⟨Arv.new A hz, Ex⟩ O T' locs _ _ X' N e' (by omega) (by omega)
  exact ⟨s₂, o, stp _ st2, r⟩
theorem g_anewarrayA {kx nx : Nat} (cx : Cx Z p s m meth c R kx nx own nm code maxL ret) {C ad : String} {t : FieldType} {i : Nat} {z : Int32} {cap k' n' : Nat} (hC : (FieldType.array t).toString = C) (had : "[" ++ C = ad) (d : Dc code pc (.anewarray i) 3 pc') (w1 : (Jvm.Cond.classLink own i C).before a0 Z = true) (w2 : (Jvm.Cond.arrayOver (.array t)).before a0 Z = true) (hz : ¬ z < 0) (hcap : z.toNatClampNeg ≤ cap) (hb : cap * 8 ≤ 536870912) (hk1 : k + 1 = k') (hn1 : n + cap = n') (hkR : k' ≤ R.cells) (hnR : n' ≤ R.slots)
    (H : ∀ h' b cA, b = h.size → Ext h h' → Arx Z h' b cA (.array t) z [] .null ad → OvrA Z cA t C → G p l e R s m args below meth c Z.heap.size Q h' k' n' pc' Ls (.ref b :: st)) : G p l e R s m args below meth c Z.heap.size Q h k n pc Ls (.int z :: st) := by
  obtain ⟨hx, hZ, hown, rfl, hml, hret, hnm, -⟩ := cx
  obtain ⟨d, rfl⟩ := d
  subst hk1 hn1
  intro T locs cells slots X N eT hk hn
  obtain ⟨T', h', cA, X', e', E, A, Ex, O, stp⟩ := newRA X hx hZ hown hC w1 w2 eT (g := mkF m pc Ls (.int z :: st)) rfl d rfl hz hcap hb (by omega) (by omega) had
  obtain ⟨s₂, o, st2, r⟩ := H h' _ cA rfl E ⟨Arv.new A hz, Ex⟩ O T' locs _ _ X' N e' (by omega) (by omega)
  exact ⟨s₂, o, stp _ st2, r⟩
theorem g_iastore {kx nx : Nat} (cx : Cx Z p s m meth c R kx nx own nm code maxL ret) {a : Addr} {cA : ClassId} {z j : Int32} {ad : String} {vs : List Value} {dv : Value} {x : Int32} (d : Dc code pc .iastore 1 pc') (A : Arx Z h a cA .int z vs dv ad) (hj : ¬ j < 0 ∧ j < z) (hl : j.toNatClampNeg < vs.length) (g : Z.heap.size ≤ a) (H : ∀ h', Wr h h' a j.toNatClampNeg (.int x) → Arx Z h' a cA .int z (vs.set j.toNatClampNeg (.int x)) dv ad → G p l e R s m args below meth c Z.heap.size Q h' k n pc' Ls st) : G p l e R s m args below meth c Z.heap.size Q h k n pc Ls (.int x :: .int j :: .ref a :: st) := by
  obtain ⟨hx, hZ, hown, rfl, hml, hret, hnm, -⟩ := cx
  obtain ⟨d, rfl⟩ := d
  intro T locs cells slots X N eT hk hn
  obtain ⟨⟨cl, Ar, q, S, Nz, Hs, Gf⟩, Ex⟩ := A
  obtain ⟨T', h', X', e', W, stp⟩ := stI X hx hZ eT Ar (j := j) (inb_of S hj) (g := mkF m pc Ls (.int x :: .int j :: .ref a :: st)) rfl rfl d
  obtain ⟨s₂, o, st2, r⟩ := H h' W ⟨Arv.set Ar q S Nz Hs Gf rfl W _ rfl hl, Ex.wr W⟩ T' _ cells slots X' (Fr.snoc X' N g) e' hk hn
  exact ⟨s₂, o, stp _ st2, r⟩
theorem g_lastore {kx nx : Nat} (cx : Cx Z p s m meth c R kx nx own nm code maxL ret) {a : Addr} {cA : ClassId} {z j : Int32} {ad : String} {vs : List Value} {dv : Value} {x : Int64} (d : Dc code pc .lastore 1 pc') (A : Arx Z h a cA .long z vs dv ad) (hj : ¬ j < 0 ∧ j < z) (hl : j.toNatClampNeg < vs.length) (g : Z.heap.size ≤ a) (H : ∀ h', Wr h h' a j.toNatClampNeg (.long x) → Arx Z h' a cA .long z (vs.set j.toNatClampNeg (.long x)) dv ad → G p l e R s m args below meth c Z.heap.size Q h' k n pc' Ls st) : G p l e R s m args below meth c Z.heap.size Q h k n pc Ls (.long x :: .int j :: .ref a :: st) := by
  obtain ⟨hx, hZ, hown, rfl, hml, hret, hnm, -⟩ := cx
  obtain ⟨d, rfl⟩ := d
  intro T locs cells slots X N eT hk hn
  obtain ⟨⟨cl, Ar, q, S, Nz, Hs, Gf⟩, Ex⟩ := A
  obtain ⟨T', h', X', e', W, stp⟩ := stJ X hx hZ eT Ar (j := j) (inb_of S hj) (g := mkF m pc Ls (.long x :: .int j :: .ref a :: st)) rfl rfl d
  obtain ⟨s₂, o, st2, r⟩ := H h' W ⟨Arv.set Ar q S Nz Hs Gf rfl W _ rfl hl, Ex.wr W⟩ T' _ cells slots X' (Fr.snoc X' N g) e' hk hn
  exact ⟨s₂, o, stp _ st2, r⟩
theorem g_castore {kx nx : Nat} (cx : Cx Z p s m meth c R kx nx own nm code maxL ret) {a : Addr} {cA : ClassId} {z j : Int32} {ad : String} {vs : List Value} {dv : Value} {x : Int32} (d : Dc code pc .castore 1 pc') (A : Arx Z h a cA .char z vs dv ad) (hj : ¬ j < 0 ∧ j < z) (hl : j.toNatClampNeg < vs.length) (g : Z.heap.size ≤ a) (H : ∀ h', Wr h h' a j.toNatClampNeg (.int (nar .char x)) → Arx Z h' a cA .char z (vs.set j.toNatClampNeg (.int (nar .char x))) dv ad → G p l e R s m args below meth c Z.heap.size Q h' k n pc' Ls st) : G p l e R s m args below meth c Z.heap.size Q h k n pc Ls (.int x :: .int j :: .ref a :: st) := by
  obtain ⟨hx, hZ, hown, rfl, hml, hret, hnm, -⟩ := cx
  obtain ⟨d, rfl⟩ := d
  intro T locs cells slots X N eT hk hn
  obtain ⟨⟨cl, Ar, q, S, Nz, Hs, Gf⟩, Ex⟩ := A
  obtain ⟨T', h', X', e', W, stp⟩ := stC X hx hZ eT Ar (j := j) (inb_of S hj) (g := mkF m pc Ls (.int x :: .int j :: .ref a :: st)) rfl rfl d
  obtain ⟨s₂, o, st2, r⟩ := H h' W ⟨Arv.set Ar q S Nz Hs Gf (fits_nar_char _) W _ rfl hl, Ex.wr W⟩ T' _ cells slots X' (Fr.snoc X' N g) e' hk hn
  exact ⟨s₂, o, stp _ st2, r⟩
theorem g_bastore {kx nx : Nat} (cx : Cx Z p s m meth c R kx nx own nm code maxL ret) {a : Addr} {cA : ClassId} {z j : Int32} {ad : String} {vs : List Value} {dv : Value} {x : Int32} (d : Dc code pc .bastore 1 pc') (A : Arx Z h a cA .byte z vs dv ad) (hj : ¬ j < 0 ∧ j < z) (hl : j.toNatClampNeg < vs.length) (g : Z.heap.size ≤ a) (H : ∀ h', Wr h h' a j.toNatClampNeg (.int (nar .byte x)) → Arx Z h' a cA .byte z (vs.set j.toNatClampNeg (.int (nar .byte x))) dv ad → G p l e R s m args below meth c Z.heap.size Q h' k n pc' Ls st) : G p l e R s m args below meth c Z.heap.size Q h k n pc Ls (.int x :: .int j :: .ref a :: st) := by
  obtain ⟨hx, hZ, hown, rfl, hml, hret, hnm, -⟩ := cx
  obtain ⟨d, rfl⟩ := d
  intro T locs cells slots X N eT hk hn
  obtain ⟨⟨cl, Ar, q, S, Nz, Hs, Gf⟩, Ex⟩ := A
  obtain ⟨T', h', X', e', W, stp⟩ := stB X hx hZ eT Ar (j := j) (inb_of S hj) (g := mkF m pc Ls (.int x :: .int j :: .ref a :: st)) rfl rfl d
  obtain ⟨s₂, o, st2, r⟩ := H h' W ⟨Arv.set Ar q S Nz Hs Gf (fits_nar_byte _) W _ rfl hl, Ex.wr W⟩ T' _ cells slots X' (Fr.snoc X' N g) e' hk hn
  exact ⟨s₂, o, stp _ st2, r⟩
theorem g_aastore {kx nx : Nat} (cx : Cx Z p s m meth c R kx nx own nm code maxL ret) {a : Addr} {cA : ClassId} {z j : Int32} {ad : String} {vs : List Value} {dv v : Value} {ty : FieldType} (d : Dc code pc .aastore 1 pc') (A : Arx Z h a cA ty z vs dv ad) (hty : ty.isReference = true) (hf : fits ty v = true) (So : Sto Z h a v) (hj : ¬ j < 0 ∧ j < z) (hl : j.toNatClampNeg < vs.length) (g : Z.heap.size ≤ a) (H : ∀ h', Wr h h' a j.toNatClampNeg v → Arx Z h' a cA ty z (vs.set j.toNatClampNeg v) dv ad → G p l e R s m args below meth c Z.heap.size Q h' k n pc' Ls st) : G p l e R s m args below meth c Z.heap.size Q h k n pc Ls (v :: .int j :: .ref a :: st) := by
  obtain ⟨hx, hZ, hown, rfl, hml, hret, hnm, -⟩ := cx
  obtain ⟨d, rfl⟩ := d
  intro T locs cells slots X N eT hk hn
  obtain ⟨⟨cl, Ar, q, S, Nz, Hs, Gf⟩, Ex⟩ := A
  obtain ⟨T', h', X', e', W, stp⟩ := stR X hx hZ eT Ar (j := j) (inb_of S hj) hty So (g := mkF m pc Ls (v :: .int j :: .ref a :: st)) rfl rfl d
  obtain ⟨s₂, o, st2, r⟩ := H h' W ⟨Arv.set Ar q S Nz Hs Gf hf W _ rfl hl, Ex.wr W⟩ T' _ cells slots X' (Fr.snoc X' N g) e' hk hn
  exact ⟨s₂, o, stp _ st2, r⟩
theorem g_iaload {kx nx : Nat} (cx : Cx Z p s m meth c R kx nx own nm code maxL ret) {a : Addr} {cA : ClassId} {z j : Int32} {vs : List Value} {dv v : Value} (d : Dc code pc .iaload 1 pc') (A : Arv Z h a cA .int z vs dv) (hj : ¬ j < 0 ∧ j < z) (hv : vs.getD j.toNatClampNeg dv = v) (H : G p l e R s m args below meth c Z.heap.size Q h k n pc' Ls (v :: st)) : G p l e R s m args below meth c Z.heap.size Q h k n pc Ls (.int j :: .ref a :: st) := by
  obtain ⟨hx, hZ, hown, rfl, hml, hret, hnm, -⟩ := cx
  obtain ⟨d, rfl⟩ := d
  intro T locs cells slots X N eT hk hn
  obtain ⟨cl, Ar, q, S, Nz, Hs, Gf⟩ := A
  obtain ⟨s₂, o, st2, r⟩ := H T _ cells slots X N eT hk hn
  exact ⟨s₂, o, X.iaload hx (j := j) (v := v) (by rw [eT]; exact Ar.1) (State.isArrayOf_alike hZ.alike Ar.2.1) Ar.2.2 (inb_of S hj) (Hs.at (inb_of S hj) hv) (g := mkF m pc Ls (.int j :: .ref a :: st)) rfl rfl d _ st2, r⟩
theorem g_laload {kx nx : Nat} (cx : Cx Z p s m meth c R kx nx own nm code maxL ret) {a : Addr} {cA : ClassId} {z j : Int32} {vs : List Value} {dv v : Value} (d : Dc code pc .laload 1 pc') (A : Arv Z h a cA .long z vs dv) (hj : ¬ j < 0 ∧ j < z) (hv : vs.getD j.toNatClampNeg dv = v) (H : G p l e R s m args below meth c Z.heap.size Q h k n pc' Ls (v :: st)) : G p l e R s m args below meth c Z.heap.size Q h k n pc Ls (.int j :: .ref a :: st) := by
  obtain ⟨hx, hZ, hown, rfl, hml, hret, hnm, -⟩ := cx
  obtain ⟨d, rfl⟩ := d
  intro T locs cells slots X N eT hk hn
  obtain ⟨cl, Ar, q, S, Nz, Hs, Gf⟩ := A
  obtain ⟨s₂, o, st2, r⟩ := H T _ cells slots X N eT hk hn
  exact ⟨s₂, o, X.laload hx (j := j) (v := v) (by rw [eT]; exact Ar.1) (State.isArrayOf_alike hZ.alike Ar.2.1) Ar.2.2 (inb_of S hj) (Hs.at (inb_of S hj) hv) (g := mkF m pc Ls (.int j :: .ref a :: st)) rfl rfl d _ st2, r⟩
theorem g_caload {kx nx : Nat} (cx : Cx Z p s m meth c R kx nx own nm code maxL ret) {a : Addr} {cA : ClassId} {z j : Int32} {vs : List Value} {dv v : Value} (d : Dc code pc .caload 1 pc') (A : Arv Z h a cA .char z vs dv) (hj : ¬ j < 0 ∧ j < z) (hv : vs.getD j.toNatClampNeg dv = v) (H : G p l e R s m args below meth c Z.heap.size Q h k n pc' Ls (v :: st)) : G p l e R s m args below meth c Z.heap.size Q h k n pc Ls (.int j :: .ref a :: st) := by
  obtain ⟨hx, hZ, hown, rfl, hml, hret, hnm, -⟩ := cx
  obtain ⟨d, rfl⟩ := d
  intro T locs cells slots X N eT hk hn
  obtain ⟨cl, Ar, q, S, Nz, Hs, Gf⟩ := A
  obtain ⟨s₂, o, st2, r⟩ := H T _ cells slots X N eT hk hn
  exact ⟨s₂, o, X.caload hx (j := j) (v := v) (by rw [eT]; exact Ar.1) (State.isArrayOf_alike hZ.alike Ar.2.1) Ar.2.2 (inb_of S hj) (Hs.at (inb_of S hj) hv) (g := mkF m pc Ls (.int j :: .ref a :: st)) rfl rfl d _ st2, r⟩
theorem g_baload {kx nx : Nat} (cx : Cx Z p s m meth c R kx nx own nm code maxL ret) {a : Addr} {cA : ClassId} {z j : Int32} {vs : List Value} {dv v : Value} (d : Dc code pc .baload 1 pc') (A : Arv Z h a cA .byte z vs dv) (hj : ¬ j < 0 ∧ j < z) (hv : vs.getD j.toNatClampNeg dv = v) (H : G p l e R s m args below meth c Z.heap.size Q h k n pc' Ls (v :: st)) : G p l e R s m args below meth c Z.heap.size Q h k n pc Ls (.int j :: .ref a :: st) := by
  obtain ⟨hx, hZ, hown, rfl, hml, hret, hnm, -⟩ := cx
  obtain ⟨d, rfl⟩ := d
  intro T locs cells slots X N eT hk hn
  obtain ⟨cl, Ar, q, S, Nz, Hs, Gf⟩ := A
  obtain ⟨s₂, o, st2, r⟩ := H T _ cells slots X N eT hk hn
  exact ⟨s₂, o, X.baloadBytes hx (j := j) (v := v) (by rw [eT]; exact Ar.1) (State.isArrayOf_alike hZ.alike Ar.2.1) Ar.2.2 (inb_of S hj) (Hs.at (inb_of S hj) hv) (g := mkF m pc Ls (.int j :: .ref a :: st)) rfl rfl d _ st2, r⟩
theorem g_aaload {kx nx : Nat} (cx : Cx Z p s m meth c R kx nx own nm code maxL ret) {a : Addr} {cA : ClassId} {z j : Int32} {vs : List Value} {dv v : Value} {ty : FieldType} (d : Dc code pc .aaload 1 pc') (A : Arv Z h a cA ty z vs dv) (hty : ty.isReference = true) (hj : ¬ j < 0 ∧ j < z) (hv : vs.getD j.toNatClampNeg dv = v) (H : G p l e R s m args below meth c Z.heap.size Q h k n pc' Ls (v :: st)) : G p l e R s m args below meth c Z.heap.size Q h k n pc Ls (.int j :: .ref a :: st) := by
  obtain ⟨hx, hZ, hown, rfl, hml, hret, hnm, -⟩ := cx
  obtain ⟨d, rfl⟩ := d
  intro T locs cells slots X N eT hk hn
  obtain ⟨cl, Ar, q, S, Nz, Hs, Gf⟩ := A
  obtain ⟨s₂, o, st2, r⟩ := H T _ cells slots X N eT hk hn
  exact ⟨s₂, o, X.aaload hx (j := j) (v := v) (by rw [eT]; exact Ar.1) (State.isArrayOf_alike hZ.alike Ar.2.1) hty Ar.2.2 (inb_of S hj) (Hs.at (inb_of S hj) hv) (g := mkF m pc Ls (.int j :: .ref a :: st)) rfl rfl d _ st2, r⟩
theorem g_arraylength {kx nx : Nat} (cx : Cx Z p s m meth c R kx nx own nm code maxL ret) {a : Addr} {cA : ClassId} {z : Int32} {vs : List Value} {dv : Value} {ty : FieldType} (d : Dc code pc .arraylength 1 pc') (A : Arv Z h a cA ty z vs dv) (H : G p l e R s m args below meth c Z.heap.size Q h k n pc' Ls (.int z :: st)) : G p l e R s m args below meth c Z.heap.size Q h k n pc Ls (.ref a :: st) := by
  obtain ⟨hx, hZ, hown, rfl, hml, hret, hnm, -⟩ := cx
  obtain ⟨d, rfl⟩ := d
  intro T locs cells slots X N eT hk hn
  obtain ⟨cl, Ar, q, S, Nz, Hs, Gf⟩ := A
  obtain ⟨s₂, o, st2, r⟩ := H T _ cells slots X N eT hk hn
  exact ⟨s₂, o, X.arraylength hx (by rw [eT]; exact Ar.1) (State.isArrayOf_alike hZ.alike Ar.2.1) (g := mkF m pc Ls (.ref a :: st)) rfl rfl d _ (by rw [len_of S Nz]; exact st2), r⟩
theorem g_checkcast {kx nx : Nat} (cx : Cx Z p s m meth c R kx nx own nm code maxL ret) {K : String} {i : Nat} {a : Addr} (d : Dc code pc (.checkcast i) 3 pc') (w : (Jvm.Cond.classLink own i K).before a0 Z = true) (F : Ins Z h a K true) (H : G p l e R s m args below meth c Z.heap.size Q h k n pc' Ls (.ref a :: st)) : G p l e R s m args below meth c Z.heap.size Q h k n pc Ls (.ref a :: st) := by
  obtain ⟨hx, hZ, hown, rfl, hml, hret, hnm, -⟩ := cx
  obtain ⟨d, rfl⟩ := d
  intro T locs cells slots X N eT hk hn
  obtain ⟨T', X', e', stp⟩ := castY X hx hZ hown w eT F (g := mkF m pc Ls (.ref a :: st)) rfl rfl d
  obtain ⟨s₂, o, st2, r⟩ := H T' _ cells slots X' N e' hk hn
  exact ⟨s₂, o, stp _ st2, r⟩
theorem g_instanceY {kx nx : Nat} (cx : Cx Z p s m meth c R kx nx own nm code maxL ret) {K : String} {i : Nat} {a : Addr} (d : Dc code pc (.instanceof i) 3 pc') (w : (Jvm.Cond.classLink own i K).before a0 Z = true) (F : Ins Z h a K true) (H : G p l e R s m args below meth c Z.heap.size Q h k n pc' Ls (.int 1 :: st)) : G p l e R s m args below meth c Z.heap.size Q h k n pc Ls (.ref a :: st) := by
  obtain ⟨hx, hZ, hown, rfl, hml, hret, hnm, -⟩ := cx
  obtain ⟨d, rfl⟩ := d
  intro T locs cells slots X N eT hk hn
  obtain ⟨T', X', e', stp⟩ := instY X hx hZ hown w eT F (g := mkF m pc Ls (.ref a :: st)) rfl rfl d
  obtain ⟨s₂, o, st2, r⟩ := H T' _ cells slots X' N e' hk hn
  exact ⟨s₂, o, stp _ st2, r⟩
theorem g_ret {kx nx : Nat} (cx : Cx Z p s m meth c R kx nx own nm code maxL ret) {t : FieldType} {w v : Value} {i : Instr} (d : Dc code pc i 1 pc') (hR : ret = some t)
    (hs : ∀ T locs cells slots, Stand p l e R s m args below meth c T locs cells slots → ∀ fs, (∀ (f : JFrame) (acts : List Action), f.method = m → f.locked = none → f.entered = [] → (doReturn e (T.setTop f) acts (some v)).1 = T.setFrames fs) → Steps p.tables e below (T.setTop (mkF m pc Ls (w :: st))) (T.setFrames fs))
    (hk : k ≤ R.cells) (hn : n ≤ R.slots) (q : Q (some v) h) : G p l e R s m args below meth c Z.heap.size Q h k n pc Ls (w :: st) := by
  obtain ⟨hx, hZ, hown, rfl, hml, rfl, hnm, hlk⟩ := cx
  intro T locs cells slots X N eT hk' hn'
  obtain ⟨fs, hr, hrun, hended, hW, hsame⟩ := X.leave (v := some v) (fun h => by rw [hR] at h; cases h) hlk
  exact ⟨_, _, hs T locs cells slots X fs hr, hrun, hended, _, locs, rfl, ⟨by show Q _ T.heap; rw [eT]; exact q, N⟩, ⟨_, rfl⟩, hW, hsame.mono (by omega) (by omega)⟩
theorem g_retI {kx nx : Nat} (cx : Cx Z p s m meth c R kx nx own nm code maxL ret) {x : Int32} (d : Dc code pc .ireturn 1 pc') (hR : ret = some .int) (hk : k ≤ R.cells) (hn : n ≤ R.slots) (q : Q (some (.int x)) h) : G p l e R s m args below meth c Z.heap.size Q h k n pc Ls (.int x :: st) :=
  g_ret cx (t := .int) d hR (fun T locs cells slots X fs hl => retOut X cx.1 (cx.2.2.2.2.2.1.trans hR) rfl (Or.inl ⟨rfl, Or.inl rfl, _, rfl⟩) (by rw [cx.2.2.2.1]; exact d.1) hl) hk hn q
theorem g_retJ {kx nx : Nat} (cx : Cx Z p s m meth c R kx nx own nm code maxL ret) {x : Int64} (d : Dc code pc .lreturn 1 pc') (hR : ret = some .long) (hk : k ≤ R.cells) (hn : n ≤ R.slots) (q : Q (some (.long x)) h) : G p l e R s m args below meth c Z.heap.size Q h k n pc Ls (.long x :: st) :=
  g_ret cx (t := .long) d hR (fun T locs cells slots X fs hl => retOut X cx.1 (cx.2.2.2.2.2.1.trans hR) rfl (Or.inr (Or.inl ⟨rfl, rfl, _, rfl⟩)) (by rw [cx.2.2.2.1]; exact d.1) hl) hk hn q
theorem g_retN {kx nx : Nat} (cx : Cx Z p s m meth c R kx nx own nm code maxL ret) {x : Int32} {t : FieldType} (d : Dc code pc .ireturn 1 pc') (hR : ret = some t) (ht : t = .boolean ∨ t = .byte ∨ t = .char ∨ t = .short) (hk : k ≤ R.cells) (hn : n ≤ R.slots) (q : Q (some (.int (nar t x))) h) : G p l e R s m args below meth c Z.heap.size Q h k n pc Ls (.int x :: st) :=
  g_ret cx (t := t) d hR (fun T locs cells slots X fs hl => retN X cx.1 (cx.2.2.2.2.2.1.trans hR) ht (by rw [cx.2.2.2.1]; exact d.1) hl) hk hn q
theorem g_retZ {kx nx : Nat} (cx : Cx Z p s m meth c R kx nx own nm code maxL ret) {x : Int32} (d : Dc code pc .ireturn 1 pc') (hR : ret = some .boolean) (hx01 : nar .boolean x = x) (hk : k ≤ R.cells) (hn : n ≤ R.slots) (q : Q (some (.int x)) h) : G p l e R s m args below meth c Z.heap.size Q h k n pc Ls (.int x :: st) :=
  g_retN cx d hR (Or.inl rfl) hk hn (by rw [hx01]; exact q)
theorem g_retA {kx nx : Nat} (cx : Cx Z p s m meth c R kx nx own nm code maxL ret) {w : Value} {t : FieldType} (d : Dc code pc .areturn 1 pc') (hR : ret = some t) (ht : t.isReference = true) (hw : w.isRef = true) (hnar : narrow t w = w) (hk : k ≤ R.cells) (hn : n ≤ R.slots) (q : Q (some w) h) : G p l e R s m args below meth c Z.heap.size Q h k n pc Ls (w :: st) :=
  g_ret cx (t := t) d hR (fun T locs cells slots X fs hl => retOut X cx.1 (cx.2.2.2.2.2.1.trans hR) hnar (Or.inr (Or.inr (Or.inr (Or.inr ⟨rfl, ht, hw⟩)))) (by rw [cx.2.2.2.1]; exact d.1) hl) hk hn q
theorem g_retV {kx nx : Nat} (cx : Cx Z p s m meth c R kx nx own nm code maxL ret) (d : Dc code pc .return_ 1 pc') (hR : ret = none) (hk : k ≤ R.cells) (hn : n ≤ R.slots) (q : Q none h) : G p l e R s m args below meth c Z.heap.size Q h k n pc Ls [] := by
  obtain ⟨hx, hZ, hown, rfl, hml, rfl, hnm, hlk⟩ := cx
  intro T locs cells slots X N eT hk' hn'
  obtain ⟨fs, hr, hrun, hended, hW, hsame⟩ := X.leave (v := none) (fun _ => rfl) hlk
  exact ⟨_, _, X.returnOut hx hR d.1 hr, hrun, hended, _, locs, rfl, ⟨by show Q _ T.heap; rw [eT]; exact q, N⟩, ⟨_, rfl⟩, hW, hsame.mono (by omega) (by omega)⟩
theorem g_initO {kx nx : Nat} (cx : Cx Z p s m meth c R kx nx own nm code maxL ret) {i W : Nat} {a : Addr} (d : Dc code pc (.invokespecial i) 3 pc') (w1 : (Jvm.Cond.methodLink own i Lib.objectInit).before a0 Z = true) (w2 : (Jvm.Cond.instanceMethod Lib.objectInit).before a0 Z = true) (w3 : (Jvm.Cond.code Lib.objectInit ⟨#[0xb1]⟩ 1 none).before a0 Z = true) (hsz : Ls.size = maxL) (hf : 1 ≤ R.frames) (hW : (st.map fun v => v.category).sum ≤ W) (hl : W + 12 ≤ R.locals)
    (H : G p l e R s m args below meth c Z.heap.size Q h k n pc' Ls st) : G p l e R s m args below meth c Z.heap.size Q h k n pc Ls (.ref a :: st) := by
  obtain ⟨hx, hZ, hown, rfl, hml, hret, hnm, -⟩ := cx
  obtain ⟨d, rfl⟩ := d
  intro T locs cells slots X N eT hk hn
  obtain ⟨T', X', e', stp⟩ := initO X hx hZ hown w1 w2 w3 eT (g := mkF m pc Ls (.ref a :: st)) rfl (by rw [hml]; exact hsz) rfl d hf (W := W) (by show 2 * 0 + _ ≤ _; omega) hl
  obtain ⟨s₂, o, st2, r⟩ := H T' locs cells slots X' N e' hk hn
  exact ⟨s₂, o, stp _ st2, r⟩
theorem own_dummy : True := trivial
theorem g_static {kx nx : Nat} (cx : Cx Z p s m meth c R kx nx own nm code maxL ret) {i W k' n' maxL' : Nat} {bytes : ByteArray} {ret' : Option FieldType} {rm : Room} {argsL : List Value} {Q' : Option Value → Heap → Prop} {y : MethodName} (d : Dc code pc (.invokestatic i) 3 pc') (w1 : (Jvm.Cond.methodLink own i y).before a0 Z = true) (w2 : (Jvm.Cond.static y).before a0 Z = true) (w3 : (Jvm.Cond.initialized y.cls).before a0 Z = true) (w4 : (Jvm.Cond.code y bytes maxL' ret').before a0 Z = true) (hy : y.cls ≠ "java/lang/invoke/MethodHandle" ∧ y.cls ≠ "java/lang/invoke/VarHandle") (M : Met l Z y bytes maxL' ret' rm argsL.toArray h Q') (hsz : Ls.size = maxL) (hlen : ∀ sig, parseMethodDescriptor y.desc = some sig → argsL.length = sig.parameters.length) (hf : rm.frames + 1 ≤ R.frames) (hW : (rest.map fun v => v.category).sum ≤ W) (hl : W + (maxL' + 11) + rm.locals ≤ R.locals) (hk1 : k + rm.cells = k') (hn1 : n + rm.slots = n') (hkR : k' ≤ R.cells) (hnR : n' ≤ R.slots)
    (hst : st = argsL.reverse ++ rest) (H : ∀ v h', Q' v h' → G p l e R s m args below meth c Z.heap.size Q h' k' n' pc' Ls (v.toList ++ rest)) : G p l e R s m args below meth c Z.heap.size Q h k n pc Ls st := by
  obtain ⟨hx, hZ, hown, rfl, hml, hret, hnm, -⟩ := cx
  obtain ⟨d, rfl⟩ := d
  subst hk1 hn1 hst
  intro T locs cells slots X N eT hk hn
  obtain ⟨v, _, ⟨T', L', k1', n1'⟩, -, X', ⟨Lc, hQ, l1, l2, l3⟩, stp⟩ := Jvm.LawKit.callS X hx (y := y) hown (mvT hZ w1) (mvT hZ w2) (mvT hZ w3) (mvT hZ w4) hy (backOf (W := W) (Q := fun v h L => Q' v h ∧ Fr Z.heap.size L) (M []) hZ w4 w3 hf hl) (g := mkF m pc Ls (argsL.reverse ++ rest)) rfl (by rw [hml]; exact hsz)  (argsL := argsL) (rest := rest) hlen rfl (by show 2 * 0 + _ ≤ _; omega) d (fun _ _ => ⟨rfl, eT, (by show cells + rm.cells ≤ _; omega), (by show slots + rm.slots ≤ _; omega)⟩)
  dsimp only [Pt.U, Pt.locs, Pt.cells, Pt.slots] at X' l1 l2 l3 stp hQ
  subst l1 l2 l3
  obtain ⟨s₂, o, st2, r⟩ := H v T'.heap hQ.1 T' _ _ _ X' (Fr.app N hQ.2) rfl (by omega) (by omega)
  exact ⟨s₂, o, stp _ st2, r⟩
theorem g_special {kx nx : Nat} (cx : Cx Z p s m meth c R kx nx own nm code maxL ret) {i W k' n' maxL' : Nat} {bytes : ByteArray} {ret' : Option FieldType} {rm : Room} {argsL : List Value} {Q' : Option Value → Heap → Prop} {y : MethodName} {a : Addr} (d : Dc code pc (.invokespecial i) 3 pc') (hyn : y.name = "<init>") (hr0 : ret' = none) (w1 : (Jvm.Cond.methodLink own i y).before a0 Z = true) (w2 : (Jvm.Cond.instanceMethod y).before a0 Z = true) (w3 : (Jvm.Cond.initialized y.cls).before a0 Z = true) (w4 : (Jvm.Cond.code y bytes maxL' ret').before a0 Z = true) (hy : y.cls ≠ "java/lang/invoke/MethodHandle" ∧ y.cls ≠ "java/lang/invoke/VarHandle") (M : Met l Z y bytes maxL' ret' rm (.ref a :: argsL).toArray h Q') (hsz : Ls.size = maxL) (hlen : ∀ sig, parseMethodDescriptor y.desc = some sig → argsL.length = sig.parameters.length) (hf : rm.frames + 1 ≤ R.frames) (hW : (rest.map fun v => v.category).sum ≤ W) (hl : W + (maxL' + 11) + rm.locals ≤ R.locals) (hk1 : k + rm.cells = k') (hn1 : n + rm.slots = n') (hkR : k' ≤ R.cells) (hnR : n' ≤ R.slots)
    (hst : st = argsL.reverse ++ .ref a :: rest) (H : ∀ v h', Q' v h' → G p l e R s m args below meth c Z.heap.size Q h' k' n' pc' Ls (v.toList ++ rest)) : G p l e R s m args below meth c Z.heap.size Q h k n pc Ls st := by
  obtain ⟨hx, hZ, hown, rfl, hml, hret, hnm, -⟩ := cx
  obtain ⟨d, rfl⟩ := d
  subst hk1 hn1 hst
  intro T locs cells slots X N eT hk hn
  subst hr0
  obtain ⟨v, _, ⟨T', L', k1', n1'⟩, -, X', ⟨Lc, hQ, l1, l2, l3⟩, stp⟩ := X.specialBack hx (y := y) hyn hown (mvT hZ w1) (mvT hZ w2) (mvT hZ w4) hy (backOf (W := W) (Q := fun v h L => Q' v h ∧ Fr Z.heap.size L) (M []) hZ w4 w3 hf hl) (g := mkF m pc Ls (argsL.reverse ++ .ref a :: rest)) rfl (by rw [hml]; exact hsz) (Steps.refl _) (a := a) (argsL := argsL) (rest := rest) hlen rfl (by show 2 * 0 + _ ≤ _; omega) d (fun _ _ => ⟨rfl, eT, (by show cells + rm.cells ≤ _; omega), (by show slots + rm.slots ≤ _; omega)⟩)
  dsimp only [Pt.U, Pt.locs, Pt.cells, Pt.slots] at X' l1 l2 l3 stp hQ
  subst l1 l2 l3
  obtain ⟨s₂, o, st2, r⟩ := H v T'.heap hQ.1 T' _ _ _ X' (Fr.app N hQ.2) rfl (by omega) (by omega)
  exact ⟨s₂, o, stp.trans st2, r⟩
theorem g_virtual {kx nx : Nat} (cx : Cx Z p s m meth c R kx nx own nm code maxL ret) {i W k' n' maxL' : Nat} {bytes : ByteArray} {ret' : Option FieldType} {rm : Room} {argsL : List Value} {Q' : Option Value → Heap → Prop} {y z : MethodName} {a : Addr} {C : String} (d : Dc code pc (.invokevirtual i) 3 pc') (w1 : (Jvm.Cond.methodLink own i y).before a0 Z = true) (w2 : (Jvm.Cond.declares y).before a0 Z = true) (w3 : (Jvm.Cond.initialized z.cls).before a0 Z = true) (w4 : (Jvm.Cond.code z bytes maxL' ret').before a0 Z = true) (w5 : (Jvm.Cond.selects C y z).before a0 Z = true) (w6 : (Jvm.Cond.instanceMethod z).before a0 Z = true) (hnf : y = z) (hy : y.cls ≠ "java/lang/invoke/MethodHandle" ∧ y.cls ≠ "java/lang/invoke/VarHandle") (E : Exa Z h a C) (M : Met l Z z bytes maxL' ret' rm (.ref a :: argsL).toArray h Q') (hsz : Ls.size = maxL) (hlen : ∀ sig, parseMethodDescriptor y.desc = some sig → argsL.length = sig.parameters.length) (hf : rm.frames + 1 ≤ R.frames) (hW : (rest.map fun v => v.category).sum ≤ W) (hl : W + (maxL' + 11) + rm.locals ≤ R.locals) (hk1 : k + rm.cells = k') (hn1 : n + rm.slots = n') (hkR : k' ≤ R.cells) (hnR : n' ≤ R.slots)
    (hst : st = argsL.reverse ++ .ref a :: rest) (H : ∀ v h', Q' v h' → G p l e R s m args below meth c Z.heap.size Q h' k' n' pc' Ls (v.toList ++ rest)) : G p l e R s m args below meth c Z.heap.size Q h k n pc Ls st := by
  obtain ⟨hx, hZ, hown, rfl, hml, hret, hnm, -⟩ := cx
  obtain ⟨d, rfl⟩ := d
  subst hk1 hn1 hst
  intro T locs cells slots X N eT hk hn
  subst hnf
  obtain ⟨cq, kq, q1, q2, q3⟩ := isOf hZ eT E
  obtain ⟨v, _, ⟨T', L', k1', n1'⟩, -, X', ⟨Lc, hQ, l1, l2, l3⟩, stp⟩ := X.virtualBack hx (y := y) (z := y) hown (mvT hZ w1) (mvT hZ w2) (notFace_of_selects (args := #[]) (mvT hZ w5)) (mvT hZ w5) (mvT hZ w6) hy (backOf (W := W) (Q := fun v h L => Q' v h ∧ Fr Z.heap.size L) (M []) hZ w4 w3 hf hl) q1 q3 (g := mkF m pc Ls (argsL.reverse ++ .ref a :: rest)) rfl (by rw [hml]; exact hsz) (Steps.refl _) (argsL := argsL) (rest := rest) hlen rfl (by show 2 * 0 + _ ≤ _; omega) d (fun _ _ => ⟨rfl, eT, (by show cells + rm.cells ≤ _; omega), (by show slots + rm.slots ≤ _; omega)⟩)
  dsimp only [Pt.U, Pt.locs, Pt.cells, Pt.slots] at X' l1 l2 l3 stp hQ
  subst l1 l2 l3
  obtain ⟨s₂, o, st2, r⟩ := H v T'.heap hQ.1 T' _ _ _ X' (Fr.app N hQ.2) rfl (by omega) (by omega)
  exact ⟨s₂, o, stp.trans st2, r⟩
theorem g_private {kx nx : Nat} (cx : Cx Z p s m meth c R kx nx own nm code maxL ret) {i W k' n' maxL' : Nat} {bytes : ByteArray} {ret' : Option FieldType} {rm : Room} {argsL : List Value} {Q' : Option Value → Heap → Prop} {y : MethodName} {a : Addr} (d : Dc code pc (.invokevirtual i) 3 pc') (w1 : (Jvm.Cond.methodLink own i y).before a0 Z = true) (w2 : (Jvm.Cond.instanceMethod y).before a0 Z = true) (w3 : (Jvm.Cond.initialized y.cls).before a0 Z = true) (w4 : (Jvm.Cond.code y bytes maxL' ret').before a0 Z = true) (w5 : (Jvm.Cond.selects y.cls y y).before a0 Z = true) (w6 : (Jvm.Cond.privateMethod y).before a0 Z = true) (hy : y.cls ≠ "java/lang/invoke/MethodHandle" ∧ y.cls ≠ "java/lang/invoke/VarHandle") {C : String} (E : Exa Z h a C) (M : Met l Z y bytes maxL' ret' rm (.ref a :: argsL).toArray h Q') (hsz : Ls.size = maxL) (hlen : ∀ sig, parseMethodDescriptor y.desc = some sig → argsL.length = sig.parameters.length) (hf : rm.frames + 1 ≤ R.frames) (hW : (rest.map fun v => v.category).sum ≤ W) (hl : W + (maxL' + 11) + rm.locals ≤ R.locals) (hk1 : k + rm.cells = k') (hn1 : n + rm.slots = n') (hkR : k' ≤ R.cells) (hnR : n' ≤ R.slots)
    (hst : st = argsL.reverse ++ .ref a :: rest) (H : ∀ v h', Q' v h' → G p l e R s m args below meth c Z.heap.size Q h' k' n' pc' Ls (v.toList ++ rest)) : G p l e R s m args below meth c Z.heap.size Q h k n pc Ls st := by
  obtain ⟨hx, hZ, hown, rfl, hml, hret, hnm, -⟩ := cx
  obtain ⟨d, rfl⟩ := d
  subst hk1 hn1 hst
  intro T locs cells slots X N eT hk hn
  obtain ⟨cq, q1, q2⟩ := E.cell
  obtain ⟨v, _, ⟨T', L', k1', n1'⟩, -, X', ⟨Lc, hQ, l1, l2, l3⟩, stp⟩ := X.privateBack hx (y := y) hown (mvT hZ w1) (mvT hZ w2) (mvT hZ w5) (Cond.privateMethod_at (mvP hZ w6 (args := #[]))) (mvT hZ w4) hy (backOf (W := W) (Q := fun v h L => Q' v h ∧ Fr Z.heap.size L) (M []) hZ w4 w3 hf hl) (g := mkF m pc Ls (argsL.reverse ++ .ref a :: rest)) rfl (by rw [hml]; exact hsz) (Steps.refl _) (a := a) (by rw [eT]; exact q1) q2 (argsL := argsL) (rest := rest) hlen rfl (by show 2 * 0 + _ ≤ _; omega) d (fun _ _ => ⟨rfl, eT, (by show cells + rm.cells ≤ _; omega), (by show slots + rm.slots ≤ _; omega)⟩)
  dsimp only [Pt.U, Pt.locs, Pt.cells, Pt.slots] at X' l1 l2 l3 stp hQ
  subst l1 l2 l3
  obtain ⟨s₂, o, st2, r⟩ := H v T'.heap hQ.1 T' _ _ _ X' (Fr.app N hQ.2) rfl (by omega) (by omega)
  exact ⟨s₂, o, stp.trans st2, r⟩
theorem g_virtualUp {kx nx : Nat} (cx : Cx Z p s m meth c R kx nx own nm code maxL ret) {i W k' n' maxL' : Nat} {bytes : ByteArray} {ret' : Option FieldType} {rm : Room} {argsL : List Value} {Q' : Option Value → Heap → Prop} {x y : MethodName} {a : Addr} {C owner : String} (d : Dc code pc (.invokevirtual i) 3 pc') (w1 : (Jvm.Cond.methodLink own i x).before a0 Z = true) (w0 : (Jvm.Cond.sameMethod x.cls owner x.name x.desc).before a0 Z = true) (w2 : (Jvm.Cond.declares ⟨owner, x.name, x.desc⟩).before a0 Z = true) (w3 : (Jvm.Cond.initialized y.cls).before a0 Z = true) (w4 : (Jvm.Cond.code y bytes maxL' ret').before a0 Z = true) (w5 : (Jvm.Cond.selects C x y).before a0 Z = true) (w6 : (Jvm.Cond.instanceMethod y).before a0 Z = true) (hy : owner ≠ "java/lang/invoke/MethodHandle" ∧ owner ≠ "java/lang/invoke/VarHandle") (E : Exa Z h a C) (M : Met l Z y bytes maxL' ret' rm (.ref a :: argsL).toArray h Q') (hsz : Ls.size = maxL) (hlen : ∀ sig, parseMethodDescriptor x.desc = some sig → argsL.length = sig.parameters.length) (hf : rm.frames + 1 ≤ R.frames) (hW : (rest.map fun v => v.category).sum ≤ W) (hl : W + (maxL' + 11) + rm.locals ≤ R.locals) (hk1 : k + rm.cells = k') (hn1 : n + rm.slots = n') (hkR : k' ≤ R.cells) (hnR : n' ≤ R.slots)
    (hst : st = argsL.reverse ++ .ref a :: rest) (H : ∀ v h', Q' v h' → G p l e R s m args below meth c Z.heap.size Q h' k' n' pc' Ls (v.toList ++ rest)) : G p l e R s m args below meth c Z.heap.size Q h k n pc Ls st := by
  obtain ⟨hx, hZ, hown, rfl, hml, hret, hnm, -⟩ := cx
  obtain ⟨d, rfl⟩ := d
  subst hk1 hn1 hst
  intro T locs cells slots X N eT hk hn
  obtain ⟨cq, kq, q1, q2, q3⟩ := isOf hZ eT E
  obtain ⟨v, _, ⟨T', L', k1', n1'⟩, -, X', ⟨Lc, hQ, l1, l2, l3⟩, stp⟩ := X.virtualBackUp hx (x := x) (y := y) hown (mvT hZ w1) (mvT hZ w0) (mvT hZ w2) hy (mvT hZ w5) (mvT hZ w6) (backOf (W := W) (Q := fun v h L => Q' v h ∧ Fr Z.heap.size L) (M []) hZ w4 w3 hf hl) q1 q3 (g := mkF m pc Ls (argsL.reverse ++ .ref a :: rest)) rfl (by rw [hml]; exact hsz) (Steps.refl _) (argsL := argsL) (rest := rest) hlen rfl (by show 2 * 0 + _ ≤ _; omega) d (fun _ _ => ⟨rfl, eT, (by show cells + rm.cells ≤ _; omega), (by show slots + rm.slots ≤ _; omega)⟩)
  dsimp only [Pt.U, Pt.locs, Pt.cells, Pt.slots] at X' l1 l2 l3 stp hQ
  subst l1 l2 l3
  obtain ⟨s₂, o, st2, r⟩ := H v T'.heap hQ.1 T' _ _ _ X' (Fr.app N hQ.2) rfl (by omega) (by omega)
  exact ⟨s₂, o, stp.trans st2, r⟩
theorem specialRef {T : State} {locs : List Loc} {cells slots : Nat} (X : Stand p l e R s m args below meth c T locs cells slots) (hexec : p.tables.exec = Jvm.exec) (hZ : Z.Warmed39 s.vm) {index : Nat} {y : MethodName} (hy1 : y.name = "<init>") (hown : s.vm.findClass own = some m.cls)
    (href : (Jvm.Cond.methodRef own index y).before a0 Z = true) (hinst : (Jvm.Cond.instanceMethod y).before a0 Z = true) {bytes : ByteArray} {mL : Nat} (hcode : (Jvm.Cond.code y bytes mL none).before a0 Z = true) (hy : y.cls ≠ "java/lang/invoke/MethodHandle" ∧ y.cls ≠ "java/lang/invoke/VarHandle")
    {W : Nat} {Pre : Pt → Array Value → Prop} {Post : Pt → Array Value → Option Value → Pt → Prop} (hK : Back l R p e below s args y 3 W Pre Post)
    {g : JFrame} (hg : g.method = m) (hsize : g.locals.size = c.maxLocals) {a : Addr} {argsL rest : List Value}
    (hlen : ∀ sig, parseMethodDescriptor y.desc = some sig → argsL.length = sig.parameters.length) (hstack : g.stack = argsL.reverse ++ .ref a :: rest) (hW : 2 * g.monitorRoom + (rest.map fun v => v.category).sum ≤ W)
    (hdg : decode c.code g.pc = .ok (.invokespecial index, 3)) (hpre : Pre ⟨T, locs, cells, slots⟩ (.ref a :: argsL).toArray) :
    ∃ (v : Option Value) (B : Pt), Stand p l e R s m args below meth c B.U B.locs B.cells B.slots ∧ Post ⟨T, locs, cells, slots⟩ (.ref a :: argsL).toArray v B ∧
      Steps p.tables e below (T.setTop g) (B.U.setTop { g with pc := g.pc + 3, stack := v.toList ++ rest }) := by
  have hZT : Z.Warmed39 T.vm := wtrans hZ X.warmed
  have hinst' : (Jvm.Cond.instanceMethod y).before args s = true := mvT hZ hinst
  have hcode' : (Jvm.Cond.code y bytes mL none).before args s = true := mvT hZ hcode
  obtain ⟨obj, methO, hnO, hmO, hstO, habO⟩ := Cond.instanceMethod_spec hinst'
  obtain ⟨methO', cO, hmO', hcO, hbO, hlO, -, hlockO, -, hsigO⟩ := Cond.code_spec hnO hcode'
  cases hmO.symm.trans hmO'
  obtain ⟨kO, hkO, hnameO⟩ := className_of_methodNamed hnO
  obtain ⟨hnameMO, hdescO⟩ := name_of_methodNamed hnO hmO
  obtain ⟨objZ, _, hnZ, -⟩ := Cond.instanceMethod_spec hinst
  have hr : (Jvm.Cond.methodRef own index y).before a0 (Z.setVm T.vm) = true := Cond.methodRef_warmed39 hZT hnZ hy href
  have hownT : (Z.setVm T.vm).vm.findClass own = some m.cls := by show T.vm.findClass own = _; rw [X.warmed.alike.findClass]; exact hown
  obtain ⟨m', c', hm', hready, hfind, hnamed⟩ := Cond.methodRef_named e hownT hr
  have hf0 : s.methodFound? y.cls y.name y.desc = some obj := State.methodFound?_of_named hnO hy
  have hf1 : (s.setVm T.vm).methodFound? y.cls y.name y.desc = some obj := (State.methodFound?_setVm_of_named X.warmed.alike hnO hy).trans hf0
  have hf2 : (Z.setVm T.vm).methodFound? y.cls y.name y.desc = some obj := hf1
  cases hf2.symm.trans hm'
  have hcc : c' = obj.cls := by
    have h1 : T.vm.findClass y.cls = some c' := hfind
    rw [X.warmed.alike.findClass, findClass_of_methodNamed hnO] at h1
    exact (Option.some.inj h1).symm
  subst hcc
  obtain ⟨kO₂, hkO₂, heO₂⟩ := X.warmed.alike.2.2 _ _ hkO
  have hmO₂ : T.vm.method? obj = some methO := by rw [X.warmed.alike.method?]; exact hmO
  have hfound : lookupSpecial T.vm obj.cls "<init>" methO.desc = .method obj := by
    rw [X.warmed.alike.lookupSpecial, hdescO, ← hy1]; exact lookupSpecial_of_named hnO hmO hstO
  obtain ⟨v, B, X', hpost, hsteps⟩ := hK m meth c ⟨T, locs, cells, slots⟩ { g with stack := rest } (.invokespecial index) obj (.ref a :: argsL).toArray X hg hsize hdg hW (X.named hnO) hpre
  refine ⟨v, B, X', hpost, Steps.trans ?_ hsteps⟩
  subst hg
  jvm_step X.here [hexec, hdg, invokespecial.wp_init (e := e) (s := T) (k := kO₂) (meth := methO) (m := obj) (a := a) (args := argsL) (rest := rest) (f := g) X.here.top hnamed hready hkO₂ hmO₂ (by rw [hnameMO]; exact hy1) hstO habO hfound (hlen _ hsigO) hstack]
  intro acts
  rw [doInvoke_state]
  exact Steps.refl _
theorem g_specialRef {kx nx : Nat} (cx : Cx Z p s m meth c R kx nx own nm code maxL ret) {i W k' n' maxL' : Nat} {bytes : ByteArray} {ret' : Option FieldType} {rm : Room} {argsL : List Value} {Q' : Option Value → Heap → Prop} {y : MethodName} {a : Addr} (d : Dc code pc (.invokespecial i) 3 pc') (hyn : y.name = "<init>") (hr0 : ret' = none) (w1 : (Jvm.Cond.methodRef own i y).before a0 Z = true) (w2 : (Jvm.Cond.instanceMethod y).before a0 Z = true) (w3 : (Jvm.Cond.initialized y.cls).before a0 Z = true) (w4 : (Jvm.Cond.code y bytes maxL' ret').before a0 Z = true) (hy : y.cls ≠ "java/lang/invoke/MethodHandle" ∧ y.cls ≠ "java/lang/invoke/VarHandle") (M : Met l Z y bytes maxL' ret' rm (.ref a :: argsL).toArray h Q') (hsz : Ls.size = maxL) (hlen : ∀ sig, parseMethodDescriptor y.desc = some sig → argsL.length = sig.parameters.length) (hf : rm.frames + 1 ≤ R.frames) (hW : (rest.map fun v => v.category).sum ≤ W) (hl : W + (maxL' + 11) + rm.locals ≤ R.locals) (hk1 : k + rm.cells = k') (hn1 : n + rm.slots = n') (hkR : k' ≤ R.cells) (hnR : n' ≤ R.slots)
    (hst : st = argsL.reverse ++ .ref a :: rest) (H : ∀ v h', Q' v h' → G p l e R s m args below meth c Z.heap.size Q h' k' n' pc' Ls (v.toList ++ rest)) : G p l e R s m args below meth c Z.heap.size Q h k n pc Ls st := by
  obtain ⟨hx, hZ, hown, rfl, hml, hret, hnm, -⟩ := cx
  obtain ⟨d, rfl⟩ := d
  subst hk1 hn1 hst
  intro T locs cells slots X N eT hk hn
  subst hr0
  obtain ⟨v, ⟨T', L', k1', n1'⟩, X', ⟨Lc, hQ, l1, l2, l3⟩, stp⟩ := specialRef X hx hZ (y := y) hyn hown w1 w2 w4 hy (backOf (W := W) (Q := fun v h L => Q' v h ∧ Fr Z.heap.size L) (M []) hZ w4 w3 hf hl) (g := mkF m pc Ls (argsL.reverse ++ .ref a :: rest)) rfl (by rw [hml]; exact hsz) (a := a) (argsL := argsL) (rest := rest) hlen rfl (by show 2 * 0 + _ ≤ _; omega) d ⟨rfl, eT, (by show cells + rm.cells ≤ _; omega), (by show slots + rm.slots ≤ _; omega)⟩
  dsimp only [Pt.U, Pt.locs, Pt.cells, Pt.slots] at X' l1 l2 l3 stp hQ
  subst l1 l2 l3
  obtain ⟨s₂, o, st2, r⟩ := H v T'.heap hQ.1 T' _ _ _ X' (Fr.app N hQ.2) rfl (by omega) (by omega)
  exact ⟨s₂, o, stp.trans st2, r⟩
theorem g_lsw {kx nx : Nat} (cx : Cx Z p s m meth c R kx nx own nm code maxL ret) {x : Int32} {dflt : Int} {pairs : Array (Int × Int)} {len : Nat} (d : decode code pc = .ok (.lookupswitch dflt pairs, len)) (hs : (pairs.toList.zip (pairs.toList.drop 1)).all (fun (a, next) => a.1 < next.1) = true) {off : Int} (hf : ((pairs.find? (·.1 == x.toInt)).map (·.2)).getD dflt = off) (h0 : 0 ≤ (pc : Int) + off) (hp : ((pc : Int) + off).toNat = pc') (H : G p l e R s m args below meth c Z.heap.size Q h k n pc' Ls st) : G p l e R s m args below meth c Z.heap.size Q h k n pc Ls (.int x :: st) := by
  obtain ⟨hx, hZ, hown, rfl, hml, hret, hnm, -⟩ := cx
  subst hp
  intro T locs cells slots X N eT hk hn
  obtain ⟨s₂, o, st2, r⟩ := H T locs cells slots X N eT hk hn
  cases hq : pairs.find? (·.1 == x.toInt) with
  | none =>
    rw [hq] at hf
    have hf' : dflt = off := hf
    subst hf'
    exact ⟨s₂, o, X.lookupswitchMiss hx (g := mkF m pc Ls (.int x :: st)) rfl rfl d hs hq h0 _ st2, r⟩
  | some ao =>
    rw [hq] at hf
    have hf' : ao.2 = off := hf
    subst hf'
    exact ⟨s₂, o, X.lookupswitchHit hx (g := mkF m pc Ls (.int x :: st)) rfl rfl d hs (a := ao.1) (off := ao.2) hq h0 _ st2, r⟩
theorem lsw_miss {x : Int32} {dflt : Int} {pairs : Array (Int × Int)} (q : ∀ a ∈ pairs.toList, a.1 ≠ x.toInt) : ((pairs.find? (·.1 == x.toInt)).map (·.2)).getD dflt = dflt := by rw [find_miss q]; rfl
theorem g_aaloadR {kx nx : Nat} (cx : Cx Z p s m meth c R kx nx own nm code maxL ret) {a : Addr} {cl : Cell} {j : Int32} {v : Value} {ty : FieldType} (d : Dc code pc .aaload 1 pc') (A : Arr Z h a cl ty) (hty : ty.isReference = true) (hj : ¬ (j < 0 ∨ cl.slots.size ≤ j.toNatClampNeg)) (hv : cl.slots[j.toNatClampNeg]? = some v) (H : G p l e R s m args below meth c Z.heap.size Q h k n pc' Ls (v :: st)) : G p l e R s m args below meth c Z.heap.size Q h k n pc Ls (.int j :: .ref a :: st) := by
  obtain ⟨hx, hZ, hown, rfl, hml, hret, hnm, -⟩ := cx
  obtain ⟨d, rfl⟩ := d
  intro T locs cells slots X N eT hk hn
  obtain ⟨s₂, o, st2, r⟩ := H T _ cells slots X N eT hk hn
  exact ⟨s₂, o, X.aaload hx (j := j) (v := v) (by rw [eT]; exact A.1) (State.isArrayOf_alike hZ.alike A.2.1) hty A.2.2 hj hv (g := mkF m pc Ls (.int j :: .ref a :: st)) rfl rfl d _ st2, r⟩
theorem arr_len {t : Term} {a : Addr} {cl : Cell} {ty : FieldType} {z : Int32} (ev : t.eval args Z none [] Z = some (.ref a)) (A : Arr Z Z.heap a cl ty) (h3 : (Jvm.Cond.eq (.length t) (.int z)).value args Z none Z [] = some true) : cl.slots.size < 2 ^ 31 ∧ cl.slots.size.toInt32 = z := by
  have ex := eqv_i (F := .int z) rfl h3
  have A1 := A.fin (Vm.Alike.refl _)
  have hl : cl.slots.size < 2 ^ 31 := by
    refine Decidable.byContradiction fun hc => ?_
    simp [Term.eval, ev, A1, hc] at ex
  rw [len_f ev A1 hl] at ex
  exact ⟨hl, by simpa using ex⟩
theorem sta_arr {C f d : String} {ty : FieldType} {z : Int32} (hi : (Jvm.Cond.initializedFor C f d).before args Z = true ∨ ((Jvm.Cond.initialized C).before args Z = true ∧ (Jvm.Cond.laysStatic C f d).before args Z = true)) (h1 : (Jvm.Cond.arrayOf (.static C f d) ty).value args Z none Z [] = some true) (h3 : (Jvm.Cond.eq (.length (.static C f d)) (.int z)).value args Z none Z [] = some true) :
    ∃ a cl, Sta Z Z.heap C f d (.ref a) ∧ (Term.static C f d).eval args Z none [] Z = some (.ref a) ∧ Arr Z Z.heap a cl ty ∧ cl.slots.size < 2 ^ 31 ∧ cl.slots.size.toInt32 = z := by
  obtain ⟨a, ev⟩ := arr_v h1
  obtain ⟨cl, A⟩ := Arr.start ev h1
  obtain ⟨q1, q2⟩ := arr_len ev A h3
  exact ⟨a, cl, Sta.start ev hi, ev, A, q1, q2⟩
theorem fld_exa {t : Term} {C f d K : String} {a : Addr} (ev : t.eval args Z none [] Z = some (.ref a)) (h : (Jvm.Cond.exactly (.field t C f d) K).value args Z none Z [] = some true) : ∃ b, Fld Z Z.heap a C f d (.ref b) ∧ Exa Z Z.heap b K ∧ (Term.field t C f d).eval args Z none [] Z = some (.ref b) := by
  obtain ⟨b, eb⟩ := exa_v h
  exact ⟨b, Fld.start ((fld_at ev).symm.trans eb), Exa.start eb h, eb⟩
theorem fld_arr {t : Term} {C f d : String} {a : Addr} {ty : FieldType} {z : Int32} (ev : t.eval args Z none [] Z = some (.ref a)) (h : (Jvm.Cond.arrayOf (.field t C f d) ty).value args Z none Z [] = some true) (h3 : (Jvm.Cond.eq (.length (.field t C f d)) (.int z)).value args Z none Z [] = some true) : ∃ b cl, Fld Z Z.heap a C f d (.ref b) ∧ (Term.field t C f d).eval args Z none [] Z = some (.ref b) ∧ Arr Z Z.heap b cl ty ∧ cl.slots.size < 2 ^ 31 ∧ cl.slots.size.toInt32 = z := by
  obtain ⟨b, eb⟩ := arr_v h
  obtain ⟨cl, A⟩ := Arr.start eb h
  obtain ⟨q1, q2⟩ := arr_len eb A h3
  exact ⟨b, cl, Fld.start ((fld_at ev).symm.trans eb), eb, A, q1, q2⟩
theorem elem_eq {t : Term} {a : Addr} {cl : Cell} {ty : FieldType} {j v : Int32} (ev : t.eval args Z none [] Z = some (.ref a)) (A : Arr Z Z.heap a cl ty) (h : (Jvm.Cond.eq (.elem t (.int j)) (.int v)).value args Z none Z [] = some true) : cl.slots[j.toNatClampNeg]? = some (.int v) := (elem_in (eqv_i (F := .int v) rfl h) ev rfl A.1).2
theorem own_selpriv {y : MethodName} {sl : Nat} (hins : (Jvm.Cond.instantiable y.cls sl).before a0 Z = true) (hpriv : (Jvm.Cond.privateMethod y).before a0 Z = true) (hinst : (Jvm.Cond.instanceMethod y).before a0 Z = true) (hy : y.cls ≠ "java/lang/invoke/MethodHandle" ∧ y.cls ≠ "java/lang/invoke/VarHandle") : (Jvm.Cond.selects y.cls y y).before a0 Z = true := by
  obtain ⟨c, k, hc, hk, -, hniab, -, -⟩ := Cond.instantiable_spec hins
  have hni : k.isInterface = false := (Bool.or_eq_false_iff.mp hniab).1
  obtain ⟨mk, methM, hnamed, hmethM, -, -⟩ := Cond.instanceMethod_spec hinst
  have hfound : Z.methodFound? y.cls y.name y.desc = some mk := State.methodFound?_of_named hnamed hy
  have hcls : mk.cls = c := Option.some.inj ((findClass_of_methodNamed hnamed).symm.trans hc)
  have hsel : selectMethod {} Z.vm c mk = .method mk := selectMethod_private hmethM (Cond.privateMethod_at hpriv mk methM hnamed hmethM)
  simp only [Cond.before, Cond.holds, Cond.value, hc, hfound, hnamed, hsel, hcls, hk]
  simp; exact hni
theorem nar1 : nar .boolean 1 = 1 := rfl
theorem nar0 : nar .boolean 0 = 0 := rfl
theorem sta_exa {C f d K : String} (hx : (Jvm.Cond.exactly (.static C f d) K).value args Z none Z [] = some true) (wi : (Jvm.Cond.initialized C).before args Z = true) (wl : (Jvm.Cond.laysStatic C f d).before args Z = true) : ∃ a, Sta Z Z.heap C f d (.ref a) ∧ Exa Z Z.heap a K ∧ (Term.static C f d).eval args Z none [] Z = some (.ref a) := by
  obtain ⟨a, ev⟩ := exa_v hx
  exact ⟨a, Sta.start ev (Or.inr ⟨wi, wl⟩), Exa.start ev hx, ev⟩
theorem fld_eq {t : Term} {C f d : String} {a : Addr} {v : Int32} (ev : t.eval args Z none [] Z = some (.ref a)) (h : (Jvm.Cond.eq (.field t C f d) (.int v)).value args Z none Z [] = some true) : Fld Z Z.heap a C f d (.int v) := by
  obtain ⟨x, y, ex, ey, -, k2⟩ := cmp_v (Or.inl h)
  have e2 : y = .int v := by simpa [Term.eval] using ey.symm
  subst e2
  obtain ⟨z, rfl⟩ := k2
  have hz : z = v := by simpa [Cond.value, ex, ey] using h
  subst hz
  rw [fld_at ev] at ex
  exact Fld.start ex
theorem sta_int {C f d : String} (hi : (Jvm.Cond.initializedFor C f d).before args Z = true) (h1 : (Jvm.Cond.isInt (.static C f d)).before args Z = true) : ∃ v, Sta Z Z.heap C f d (.int v) ∧ (Term.static C f d).eval args Z none [] Z = some (.int v) := by
  obtain ⟨v, ev⟩ := is_v (Cond.before_iff.mp h1)
  exact ⟨v, Sta.start ev (Or.inl hi), ev⟩
theorem ne_of_not {t : Term} {z v : Int32} (ev : t.eval args Z none [] Z = some (.int z)) (h : (Jvm.Cond.not (.eq t (.int v))).before args Z = true) : ¬ z = v := by
  have h2 := not_v (Cond.before_iff.mp h)
  intro q
  subst q
  simp [Cond.value, ev, Term.eval] at h2
theorem own_lrem (x y : Int64) (d : Int) (hy : y.toInt = d) : (0 ≤ x.toInt → (x % y).toInt = x.toInt % d) ∧ (x.toInt < 0 → (x % y).toInt = -((-x.toInt) % d)) := by
  rw [← lrem_mod]; exact c_lrem x y d hy
end Walk
section WalkX
variable {p : Program} {l : Launch} {e : Env} {R : Room} {s : State} {m : MethodId} {args : Array Value} {below : List Frame} {meth : Method} {c : Code} {Z : State} {a0 : Array Value} {k n : Nat} {own nm : String} {code : ByteArray} {maxL : Nat} {ret : Option FieldType} {n0 : Nat} {Q : Option Value → Heap → Prop} {h : Heap} {pc pc' pcY pcN : Nat} {Ls : Array Slot} {st rest : List Value}
def own_nz (x : Int32) : Int32 := if x = 0 then 0 else 1
theorem own_nz_b (x : Int32) : 0 ≤ (own_nz x).toInt ∧ (own_nz x).toInt ≤ 1 := by
  unfold own_nz; split <;> decide
theorem g_tern {kx nx : Nat} (cx : Cx Z p s m meth c R kx nx own nm code maxL ret) {x : Int32} {pc1 pc2 pcB pcZ : Nat} (d : Bi code pc (Instr.ifCond .eq) pcY pc1) (d1 : Dc code pc1 (.iconst 1) 1 pc2) (d2 : Bi code pc2 Instr.goto pcB pcZ) (d0 : Dc code pcY (.iconst 0) 1 pcB) (H : G p l e R s m args below meth c Z.heap.size Q h k n pcB Ls (.int (own_nz x) :: st)) : G p l e R s m args below meth c Z.heap.size Q h k n pc Ls (.int x :: st) :=
  g_if_eq cx d (fun q => g_iconst cx d0 (v := 0) rfl (by rw [show own_nz x = 0 from if_pos q] at H; exact H)) (fun q => g_iconst cx d1 (v := 1) rfl (g_goto cx d2 (by rw [show own_nz x = 1 from if_neg q] at H; exact H)))
theorem g_copy {kx nx : Nat} (cx : Cx Z p s m meth c R kx nx own nm code maxL ret) {i W : Nat} {a b : Addr} {k1 k' : ClassId} {ty : FieldType} {z z' sp dp nn : Int32} {vs vd us : List Value} {dv dd : Value} {ad : String} (d : Dc code pc (.invokestatic i) 3 pc') (w1 : (Jvm.Cond.methodLink own i Jvm.Stand.acN).before a0 Z = true) (w2 : (Jvm.Cond.native Jvm.Stand.acN).before a0 Z = true) (w3 : (Jvm.Cond.static Jvm.Stand.acN).before a0 Z = true) (w4 : (Jvm.Cond.initialized "java/lang/System").before a0 Z = true) (A : Arv Z h a k1 ty z vs dv) (B : Arx Z h b k' ty z' vd dd ad) (hty : refKind ty = false) (h1 : ¬ sp < 0) (h2 : ¬ dp < 0) (h3 : ¬ nn < 0) (h4 : sp.toNatClampNeg + nn.toNatClampNeg ≤ z.toNatClampNeg) (h5 : dp.toNatClampNeg + nn.toNatClampNeg ≤ z'.toNatClampNeg)
    (hus : us = (List.range nn.toNatClampNeg).map fun i => vs.getD (sp.toNatClampNeg + i) dv) (hl : dp.toNatClampNeg + nn.toNatClampNeg ≤ vd.length) (ge : Z.heap.size ≤ b) (hsz : Ls.size = maxL) (hf : 1 ≤ R.frames) (hW : (rest.map fun v => v.category).sum ≤ W) (hlo : W + 18 ≤ R.locals)
    (H : ∀ h', Keep h h' [b] → Arx Z h' b k' ty z' (vd.take dp.toNatClampNeg ++ us ++ vd.drop (dp.toNatClampNeg + nn.toNatClampNeg)) dd ad → G p l e R s m args below meth c Z.heap.size Q h' k n pc' Ls rest) : G p l e R s m args below meth c Z.heap.size Q h k n pc Ls (.int nn :: .int dp :: .ref b :: .int sp :: .ref a :: rest) := by
  obtain ⟨hx, hZ, hown, rfl, hml, hret, hnm, -⟩ := cx
  obtain ⟨d, rfl⟩ := d
  intro T locs cells slots X N eT hk hn
  obtain ⟨T', h', L, X', e', N', K, A', stp⟩ := cpA X hx hZ hown w1 w2 w3 w4 eT A B.1 (Or.inl ⟨rfl, hty⟩) h1 h2 h3 h4 h5 hus hl N ge (g := mkF m pc Ls (.int nn :: .int dp :: .ref b :: .int sp :: .ref a :: rest)) rfl (by rw [hml]; exact hsz) (rest := rest) rfl d hf (W := W) (by show 2 * 0 + _ ≤ _; omega) hlo
  obtain ⟨s₂, o, st2, r⟩ := H h' K ⟨A', B.2.keep K⟩ T' L cells slots X' N' e' hk hn
  exact ⟨s₂, o, stp _ st2, r⟩
theorem g_ldcwI {kx nx : Nat} (cx : Cx Z p s m meth c R kx nx own nm code maxL ret) {i : Nat} {v : Int32} (d : Dc code pc (.ldc_w i) 3 pc') (w : (Jvm.Cond.constant own i v).before a0 Z = true) (H : G p l e R s m args below meth c Z.heap.size Q h k n pc' Ls (.int v :: st)) : G p l e R s m args below meth c Z.heap.size Q h k n pc Ls st := by
  obtain ⟨hx, hZ, hown, rfl, hml, hret, hnm, -⟩ := cx
  obtain ⟨d, rfl⟩ := d
  intro T locs cells slots X N eT hk hn
  obtain ⟨s₂, o, st2, r⟩ := H T locs cells slots X N eT hk hn
  exact ⟨s₂, o, X.ldcwInt hx hown (mvT hZ w) (g := mkF m pc Ls st) rfl d _ st2, r⟩
end WalkX
def ObH (Z : State) (h : Heap) (a : Addr) (v1 v2 v3 v4 v5 : Value) : Prop := Exa Z h a "com/example/oswego/oswego/RunTimeHistogram" ∧ Fld Z h a "com/example/oswego/oswego/RunTimeHistogram" "buckets" "[[J" v1 ∧ Fld Z h a "com/example/oswego/oswego/RunTimeHistogram" "min" "J" v2 ∧ Fld Z h a "com/example/oswego/oswego/RunTimeHistogram" "count" "J" v3 ∧ Fld Z h a "com/example/oswego/oswego/RunTimeHistogram" "sum" "J" v4 ∧ Fld Z h a "com/example/oswego/oswego/RunTimeHistogram" "max" "J" v5
theorem ObH.ext {h' : Heap} {Z : State} {h : Heap} {a : Addr} {v1 v2 v3 v4 v5 : Value} (F : ObH Z h a v1 v2 v3 v4 v5) (E : Ext h h') : ObH Z h' a v1 v2 v3 v4 v5 := ⟨F.1.ext E, F.2.1.ext E, F.2.2.1.ext E, F.2.2.2.1.ext E, F.2.2.2.2.1.ext E, F.2.2.2.2.2.ext E⟩
theorem ObH.keep {h' : Heap} {Z : State} {h : Heap} {a : Addr} {v1 v2 v3 v4 v5 : Value} {ws : List Addr} (F : ObH Z h a v1 v2 v3 v4 v5) (K : Keep h h' ws) (q : a ∉ ws) : ObH Z h' a v1 v2 v3 v4 v5 := ⟨F.1.keep K, F.2.1.keep K q, F.2.2.1.keep K q, F.2.2.2.1.keep K q, F.2.2.2.2.1.keep K q, F.2.2.2.2.2.keep K q⟩
theorem ObH.oth {x : Addr} {sl : Nat} {w : Value} {h' : Heap} {Z : State} {h : Heap} {a : Addr} {v1 v2 v3 v4 v5 : Value} (F : ObH Z h a v1 v2 v3 v4 v5) (W : Wr h h' x sl w) (q : a ≠ x) : ObH Z h' a v1 v2 v3 v4 v5 := ⟨F.1.wr W, F.2.1.other W (Or.inl q), F.2.2.1.other W (Or.inl q), F.2.2.2.1.other W (Or.inl q), F.2.2.2.2.1.other W (Or.inl q), F.2.2.2.2.2.other W (Or.inl q)⟩
theorem ObH.lt {Z : State} {h : Heap} {a : Addr} {v1 v2 v3 v4 v5 : Value} (F : ObH Z h a v1 v2 v3 v4 v5) : a < h.size := F.1.lt
theorem ObH.put1 {v : Value} {h' : Heap} {Z : State} {h : Heap} {a : Addr} {v1 v2 v3 v4 v5 : Value} {a0 : Array Value} (hw : ∀ d ∈ tables_1, d.before a0 Z = true) (F : ObH Z h a v1 v2 v3 v4 v5) (W : Wr h h' a (Jvm.RoadKit.slotOf Z "com/example/oswego/oswego/RunTimeHistogram" "buckets" "[[J") v) : ObH Z h' a v v2 v3 v4 v5 := ⟨F.1.wr W, F.2.1.same W, F.2.2.1.other W (Or.inr (slot_ne (Or.inl (hw _ (List.mem_of_getElem? (i := 17) rfl))) (Or.inr (hw _ (List.mem_of_getElem? (i := 14) rfl))) (by decide) (t := .long) (t' := (.array (.array .long))) (by decide) (by decide))), F.2.2.2.1.other W (Or.inr (slot_ne (Or.inl (hw _ (List.mem_of_getElem? (i := 24) rfl))) (Or.inr (hw _ (List.mem_of_getElem? (i := 14) rfl))) (by decide) (t := .long) (t' := (.array (.array .long))) (by decide) (by decide))), F.2.2.2.2.1.other W (Or.inr (slot_ne (Or.inl (hw _ (List.mem_of_getElem? (i := 26) rfl))) (Or.inr (hw _ (List.mem_of_getElem? (i := 14) rfl))) (by decide) (t := .long) (t' := (.array (.array .long))) (by decide) (by decide))), F.2.2.2.2.2.other W (Or.inr (slot_ne (Or.inl (hw _ (List.mem_of_getElem? (i := 28) rfl))) (Or.inr (hw _ (List.mem_of_getElem? (i := 14) rfl))) (by decide) (t := .long) (t' := (.array (.array .long))) (by decide) (by decide)))⟩
theorem ObH.put2 {v : Value} {h' : Heap} {Z : State} {h : Heap} {a : Addr} {v1 v2 v3 v4 v5 : Value} {a0 : Array Value} (hw : ∀ d ∈ tables_1, d.before a0 Z = true) (F : ObH Z h a v1 v2 v3 v4 v5) (W : Wr h h' a (Jvm.RoadKit.slotOf Z "com/example/oswego/oswego/RunTimeHistogram" "min" "J") v) : ObH Z h' a v1 v v3 v4 v5 := ⟨F.1.wr W, F.2.1.other W (Or.inr (slot_ne (Or.inr (hw _ (List.mem_of_getElem? (i := 14) rfl))) (Or.inl (hw _ (List.mem_of_getElem? (i := 17) rfl))) (by decide) (t := (.array (.array .long))) (t' := .long) (by decide) (by decide))), F.2.2.1.same W, F.2.2.2.1.other W (Or.inr (slot_ne (Or.inl (hw _ (List.mem_of_getElem? (i := 24) rfl))) (Or.inl (hw _ (List.mem_of_getElem? (i := 17) rfl))) (by decide) (t := .long) (t' := .long) (by decide) (by decide))), F.2.2.2.2.1.other W (Or.inr (slot_ne (Or.inl (hw _ (List.mem_of_getElem? (i := 26) rfl))) (Or.inl (hw _ (List.mem_of_getElem? (i := 17) rfl))) (by decide) (t := .long) (t' := .long) (by decide) (by decide))), F.2.2.2.2.2.other W (Or.inr (slot_ne (Or.inl (hw _ (List.mem_of_getElem? (i := 28) rfl))) (Or.inl (hw _ (List.mem_of_getElem? (i := 17) rfl))) (by decide) (t := .long) (t' := .long) (by decide) (by decide)))⟩
theorem ObH.put3 {v : Value} {h' : Heap} {Z : State} {h : Heap} {a : Addr} {v1 v2 v3 v4 v5 : Value} {a0 : Array Value} (hw : ∀ d ∈ tables_1, d.before a0 Z = true) (F : ObH Z h a v1 v2 v3 v4 v5) (W : Wr h h' a (Jvm.RoadKit.slotOf Z "com/example/oswego/oswego/RunTimeHistogram" "count" "J") v) : ObH Z h' a v1 v2 v v4 v5 := ⟨F.1.wr W, F.2.1.other W (Or.inr (slot_ne (Or.inr (hw _ (List.mem_of_getElem? (i := 14) rfl))) (Or.inl (hw _ (List.mem_of_getElem? (i := 24) rfl))) (by decide) (t := (.array (.array .long))) (t' := .long) (by decide) (by decide))), F.2.2.1.other W (Or.inr (slot_ne (Or.inl (hw _ (List.mem_of_getElem? (i := 17) rfl))) (Or.inl (hw _ (List.mem_of_getElem? (i := 24) rfl))) (by decide) (t := .long) (t' := .long) (by decide) (by decide))), F.2.2.2.1.same W, F.2.2.2.2.1.other W (Or.inr (slot_ne (Or.inl (hw _ (List.mem_of_getElem? (i := 26) rfl))) (Or.inl (hw _ (List.mem_of_getElem? (i := 24) rfl))) (by decide) (t := .long) (t' := .long) (by decide) (by decide))), F.2.2.2.2.2.other W (Or.inr (slot_ne (Or.inl (hw _ (List.mem_of_getElem? (i := 28) rfl))) (Or.inl (hw _ (List.mem_of_getElem? (i := 24) rfl))) (by decide) (t := .long) (t' := .long) (by decide) (by decide)))⟩
theorem ObH.put4 {v : Value} {h' : Heap} {Z : State} {h : Heap} {a : Addr} {v1 v2 v3 v4 v5 : Value} {a0 : Array Value} (hw : ∀ d ∈ tables_1, d.before a0 Z = true) (F : ObH Z h a v1 v2 v3 v4 v5) (W : Wr h h' a (Jvm.RoadKit.slotOf Z "com/example/oswego/oswego/RunTimeHistogram" "sum" "J") v) : ObH Z h' a v1 v2 v3 v v5 := ⟨F.1.wr W, F.2.1.other W (Or.inr (slot_ne (Or.inr (hw _ (List.mem_of_getElem? (i := 14) rfl))) (Or.inl (hw _ (List.mem_of_getElem? (i := 26) rfl))) (by decide) (t := (.array (.array .long))) (t' := .long) (by decide) (by decide))), F.2.2.1.other W (Or.inr (slot_ne (Or.inl (hw _ (List.mem_of_getElem? (i := 17) rfl))) (Or.inl (hw _ (List.mem_of_getElem? (i := 26) rfl))) (by decide) (t := .long) (t' := .long) (by decide) (by decide))), F.2.2.2.1.other W (Or.inr (slot_ne (Or.inl (hw _ (List.mem_of_getElem? (i := 24) rfl))) (Or.inl (hw _ (List.mem_of_getElem? (i := 26) rfl))) (by decide) (t := .long) (t' := .long) (by decide) (by decide))), F.2.2.2.2.1.same W, F.2.2.2.2.2.other W (Or.inr (slot_ne (Or.inl (hw _ (List.mem_of_getElem? (i := 28) rfl))) (Or.inl (hw _ (List.mem_of_getElem? (i := 26) rfl))) (by decide) (t := .long) (t' := .long) (by decide) (by decide)))⟩
theorem ObH.put5 {v : Value} {h' : Heap} {Z : State} {h : Heap} {a : Addr} {v1 v2 v3 v4 v5 : Value} {a0 : Array Value} (hw : ∀ d ∈ tables_1, d.before a0 Z = true) (F : ObH Z h a v1 v2 v3 v4 v5) (W : Wr h h' a (Jvm.RoadKit.slotOf Z "com/example/oswego/oswego/RunTimeHistogram" "max" "J") v) : ObH Z h' a v1 v2 v3 v4 v := ⟨F.1.wr W, F.2.1.other W (Or.inr (slot_ne (Or.inr (hw _ (List.mem_of_getElem? (i := 14) rfl))) (Or.inl (hw _ (List.mem_of_getElem? (i := 28) rfl))) (by decide) (t := (.array (.array .long))) (t' := .long) (by decide) (by decide))), F.2.2.1.other W (Or.inr (slot_ne (Or.inl (hw _ (List.mem_of_getElem? (i := 17) rfl))) (Or.inl (hw _ (List.mem_of_getElem? (i := 28) rfl))) (by decide) (t := .long) (t' := .long) (by decide) (by decide))), F.2.2.2.1.other W (Or.inr (slot_ne (Or.inl (hw _ (List.mem_of_getElem? (i := 24) rfl))) (Or.inl (hw _ (List.mem_of_getElem? (i := 28) rfl))) (by decide) (t := .long) (t' := .long) (by decide) (by decide))), F.2.2.2.2.1.other W (Or.inr (slot_ne (Or.inl (hw _ (List.mem_of_getElem? (i := 26) rfl))) (Or.inl (hw _ (List.mem_of_getElem? (i := 28) rfl))) (by decide) (t := .long) (t' := .long) (by decide) (by decide))), F.2.2.2.2.2.same W⟩
theorem ObH.new {Z : State} {h : Heap} {b : Addr} {a0 : Array Value} (hw : ∀ d ∈ tables_1, d.before a0 Z = true) (E : Exa Z h b "com/example/oswego/oswego/RunTimeHistogram") (D : ∀ {O nm d : String} {ty : FieldType}, Laid Z a0 "com/example/oswego/oswego/RunTimeHistogram" O nm d → parseFieldDescriptor d = some ty → Fld Z h b O nm d (defaultValue ty)) : ObH Z h b .null (.long (0 : Int64)) (.long (0 : Int64)) (.long (0 : Int64)) (.long (0 : Int64)) := ⟨E, D (Or.inr (hw _ (List.mem_of_getElem? (i := 14) rfl))) (ty := (.array (.array .long))) (by decide), D (Or.inl (hw _ (List.mem_of_getElem? (i := 17) rfl))) (ty := .long) (by decide), D (Or.inl (hw _ (List.mem_of_getElem? (i := 24) rfl))) (ty := .long) (by decide), D (Or.inl (hw _ (List.mem_of_getElem? (i := 26) rfl))) (ty := .long) (by decide), D (Or.inl (hw _ (List.mem_of_getElem? (i := 28) rfl))) (ty := .long) (by decide)⟩

def own_upd (f : Nat → Int64) (j : Nat) (v : Int64) : Nat → Int64 := fun i => if i = j then v else f i
def own_rl (f : Nat → Int64) : List Value := (List.range 64).map fun j => .long (f j)
theorem own_rl_len (f : Nat → Int64) : (own_rl f).length = 64 := by simp [own_rl]
theorem own_rl_get (f : Nat → Int64) {j : Nat} (q : j < 64) (dv : Value) : (own_rl f).getD j dv = .long (f j) := by
  simp [own_rl, List.getD_eq_getElem?_getD, List.getElem?_map, List.getElem?_range q]
theorem own_rl_set (f : Nat → Int64) (j : Nat) (v : Int64) : (own_rl f).set j (.long v) = own_rl (own_upd f j v) := by
  apply List.ext_getElem
  · simp [own_rl]
  · intro i h1 h2
    simp only [own_rl, own_upd, List.getElem_set, List.getElem_map, List.getElem_range]
    by_cases q : i = j
    · subst q; simp
    · rw [if_neg (fun z => q z.symm), if_neg q]
def own_L (Z : State) (h : Heap) (a : Addr) (f : Nat → Int64) : Prop := ∃ cA, Arx Z h a cA .long (64 : Int32) (own_rl f) (.long 0) "[J"
def own_In (Z : State) (h : Heap) (H bk : Addr) (ws : List Addr) (vs : List Value) (F : Nat → Nat → Int64) : Prop := ∀ j, j < 58 → (vs.getD j .null = .null ∧ ∀ q, F j q = 0) ∨ (∃ a, vs.getD j .null = .ref a ∧ own_L Z h a (F j) ∧ Z.heap.size ≤ a ∧ bk ≠ a ∧ H ≠ a ∧ a ∈ ws)
def own_Di (vs : List Value) : Prop := ∀ i j, i < 58 → j < 58 → i ≠ j → ∀ a, vs.getD i .null = .ref a → vs.getD j .null ≠ .ref a
def own_H (Z : State) (h : Heap) (H : Addr) (ws : List Addr) (F : Nat → Nat → Int64) (mn ct sm mx : Int64) : Prop := ∃ (bk : Addr) (cK : ClassId) (vs : List Value), Z.heap.size ≤ H ∧ Z.heap.size ≤ bk ∧ H ≠ bk ∧ H ∈ ws ∧ bk ∈ ws ∧ ObH Z h H (.ref bk) (.long mn) (.long ct) (.long sm) (.long mx) ∧ Arx Z h bk cK (.array .long) (58 : Int32) vs .null "[[J" ∧ OvrA Z cK .long "[J" ∧ vs.length = 58 ∧ own_In Z h H bk ws vs F ∧ own_Di vs
theorem own_L.ext {Z : State} {h h' : Heap} {a : Addr} {f : Nat → Int64} (L : own_L Z h a f) (E : Ext h h') : own_L Z h' a f := by obtain ⟨c, A⟩ := L; exact ⟨c, A.ext E⟩
theorem own_L.other {Z : State} {h h' : Heap} {a b : Addr} {sl : Nat} {v : Value} {f : Nat → Int64} (L : own_L Z h a f) (W : Wr h h' b sl v) (q : a ≠ b) : own_L Z h' a f := by obtain ⟨c, A⟩ := L; exact ⟨c, A.other W q⟩
theorem own_L.keep {Z : State} {h h' : Heap} {a : Addr} {ws : List Addr} {f : Nat → Int64} (L : own_L Z h a f) (K : Keep h h' ws) (q : a ∉ ws) : own_L Z h' a f := by obtain ⟨c, A⟩ := L; exact ⟨c, A.keep K q⟩
theorem own_L.lt {Z : State} {h : Heap} {a : Addr} {f : Nat → Int64} (L : own_L Z h a f) : a < h.size := by obtain ⟨c, A⟩ := L; exact A.lt
section InS
variable {Z : State} {h h' : Heap} {H bk a b : Addr} {ws ws' : List Addr} {vs : List Value} {F : Nat → Nat → Int64} {sl r : Nat} {v : Value} {f : Nat → Int64}
theorem own_In.ext (I : own_In Z h H bk ws vs F) (E : Ext h h') : own_In Z h' H bk ws vs F := fun j hj => (I j hj).imp id fun ⟨a, q, L, r⟩ => ⟨a, q, L.ext E, r⟩
theorem own_In.wrH (I : own_In Z h H bk ws vs F) (W : Wr h h' H sl v) : own_In Z h' H bk ws vs F := fun j hj => (I j hj).imp id fun ⟨a, q, L, g, n1, n2, m⟩ => ⟨a, q, L.other W (Ne.symm n2), g, n1, n2, m⟩
theorem own_In.wrB (I : own_In Z h H bk ws vs F) (W : Wr h h' bk sl v) : own_In Z h' H bk ws vs F := fun j hj => (I j hj).imp id fun ⟨a, q, L, g, n1, n2, m⟩ => ⟨a, q, L.other W (Ne.symm n1), g, n1, n2, m⟩
theorem own_In.mono (I : own_In Z h H bk ws vs F) (q : ∀ y ∈ ws, y ∈ ws') : own_In Z h H bk ws' vs F := fun j hj => (I j hj).imp id fun ⟨a, z, L, g, n1, n2, m⟩ => ⟨a, z, L, g, n1, n2, q _ m⟩
theorem own_In.keep (I : own_In Z h H bk ws vs F) (K : Keep h h' ws') (q : ∀ y ∈ ws, y ∉ ws') : own_In Z h' H bk ws vs F := fun j hj => (I j hj).imp id fun ⟨a, z, L, g, n1, n2, m⟩ => ⟨a, z, L.keep K (q _ m), g, n1, n2, m⟩
theorem own_In.setL (I : own_In Z h H bk ws vs F) (D : own_Di vs) (K : Keep h h' [a]) (hr : r < 58) (hv : vs.getD r .null = .ref a) (L : own_L Z h' a f) : own_In Z h' H bk ws vs (fun i => if i = r then f else F i) := by
  intro j hj
  by_cases q : j = r
  · subst q
    rcases I j hj with ⟨z, -⟩ | ⟨a', z, -, g, n1, n2, m⟩
    · rw [hv] at z; cases z
    · rw [hv] at z; cases z
      exact Or.inr ⟨a, hv, by simpa using L, g, n1, n2, m⟩
  · rcases I j hj with ⟨z, y⟩ | ⟨a', z, L', g, n1, n2, m⟩
    · exact Or.inl ⟨z, by simpa [q] using y⟩
    · have nn : a' ∉ [a] := fun w => by
        have : a' = a := by simpa using w
        subst this
        exact D r j hr hj (Ne.symm q) _ hv z
      exact Or.inr ⟨a', z, by simpa [q] using L'.keep K nn, g, n1, n2, m⟩
theorem own_set_get (hl : vs.length = 58) (hr : r < 58) : (vs.set r v).getD r .null = v := by
  simp [List.getD_eq_getElem?_getD, List.getElem?_set, hl, hr]
theorem own_set_ne {j : Nat} (q : j ≠ r) : (vs.set r v).getD j .null = vs.getD j .null := by
  simp [List.getD_eq_getElem?_getD, List.getElem?_set, Ne.symm q]
theorem own_In.put (I : own_In Z h H bk ws vs F) (hl : vs.length = 58) (hr : r < 58) (hv : vs.getD r .null = .null) (L : own_L Z h b (fun _ => 0)) (g : Z.heap.size ≤ b) (n1 : bk ≠ b) (n2 : H ≠ b) : own_In Z h H bk (b :: ws) (vs.set r (.ref b)) F := by
  intro j hj
  by_cases q : j = r
  · subst q
    rcases I j hj with ⟨-, y⟩ | ⟨a', z, -⟩
    · exact Or.inr ⟨b, own_set_get hl hj, by rw [show F j = fun _ => 0 from funext y]; exact L, g, n1, n2, by simp⟩
    · rw [hv] at z; cases z
  · rw [own_set_ne q]
    exact (I j hj).imp id fun ⟨a, z, L, g, n1, n2, m⟩ => ⟨a, z, L, g, n1, n2, List.mem_cons_of_mem _ m⟩
theorem own_Di.put (D : own_Di vs) (hl : vs.length = 58) (hr : r < 58) (hb : ∀ j, j < 58 → vs.getD j .null ≠ .ref b) : own_Di (vs.set r (.ref b)) := by
  intro i j hi hj q a ha hb'
  by_cases q1 : i = r
  · subst q1
    rw [own_set_get hl hi] at ha; cases ha
    rw [own_set_ne (Ne.symm q)] at hb'
    exact hb j hj hb'
  · rw [own_set_ne q1] at ha
    by_cases q2 : j = r
    · subst q2
      rw [own_set_get hl hj] at hb'; cases hb'
      exact hb i hi ha
    · rw [own_set_ne q2] at hb'
      exact D i j hi hj q a ha hb'
theorem own_In.fresh (I : own_In Z h H bk ws vs F) (e : b = h.size) : ∀ j, j < 58 → vs.getD j .null ≠ .ref b := fun j hj z => by
  rcases I j hj with ⟨y, -⟩ | ⟨a, y, L, -⟩
  · rw [y] at z; cases z
  · rw [y] at z; cases z
    exact absurd L.lt (by rw [e]; exact Nat.lt_irrefl _)
theorem own_rowlt (I : own_In Z h H bk ws vs F) (hr : r < 58) (hv : vs.getD r .null = .ref a) : a < h.size := by
  rcases I r hr with ⟨y, -⟩ | ⟨a', y, L, -⟩
  · rw [hv] at y; cases y
  · rw [hv] at y; cases y; exact L.lt
theorem own_ix {r : Int32} (r0 : ¬ r < (0 : Int32)) (r1 : r < (58 : Int32)) : r.toNatClampNeg < 58 := by
  have h1 : ¬ r.toInt < (0 : Int32).toInt := fun z => r0 (Int32.lt_iff_toInt_lt.mpr z)
  have h2 := Int32.lt_iff_toInt_lt.mp r1
  have e1 : (58 : Int32).toInt = 58 := rfl
  have e0 : (0 : Int32).toInt = 0 := rfl
  simp only [Int32.toNatClampNeg]
  omega
theorem own_ix64 {r : Int32} (r0 : ¬ r < (0 : Int32)) (r1 : r < (64 : Int32)) : r.toNatClampNeg < 64 := by
  have h1 : ¬ r.toInt < (0 : Int32).toInt := fun z => r0 (Int32.lt_iff_toInt_lt.mpr z)
  have h2 := Int32.lt_iff_toInt_lt.mp r1
  have e1 : (64 : Int32).toInt = 64 := rfl
  have e0 : (0 : Int32).toInt = 0 := rfl
  simp only [Int32.toNatClampNeg]
  omega
theorem own_H.keep {mn ct sm mx : Int64} (I : own_H Z h H ws F mn ct sm mx) (K : Keep h h' ws') (q : ∀ y ∈ ws, y ∉ ws') : own_H Z h' H ws F mn ct sm mx := by
  obtain ⟨bk, cK, vs, g1, g2, n, m1, m2, O, A, OV, hl, J, D⟩ := I
  exact ⟨bk, cK, vs, g1, g2, n, m1, m2, O.keep K (q _ m1), A.keep K (q _ m2), OV, hl, J.keep K q, D⟩
theorem own_Hx {mn ct sm mx : Int64} (I : own_H Z h H ws F mn ct sm mx) : Exa Z h H "com/example/oswego/oswego/RunTimeHistogram" ∧ True := by
  obtain ⟨bk, cK, vs, g1, g2, n, m1, m2, O, -⟩ := I
  exact ⟨O.1, trivial⟩
theorem own_Hlt {mn ct sm mx : Int64} (I : own_H Z h H ws F mn ct sm mx) : H < h.size := by
  obtain ⟨bk, cK, vs, g1, g2, n, m1, m2, O, -⟩ := I
  exact O.lt
theorem own_H.ext {mn ct sm mx : Int64} (I : own_H Z h H ws F mn ct sm mx) (E : Ext h h') : own_H Z h' H ws F mn ct sm mx := by
  obtain ⟨bk, cK, vs, g1, g2, n, m1, m2, O, A, OV, hl, J, D⟩ := I
  exact ⟨bk, cK, vs, g1, g2, n, m1, m2, O.ext E, A.ext E, OV, hl, J.ext E, D⟩
end InS
def own_bump (F : Nat → Nat → Int64) (r q : Nat) : Nat → Nat → Int64 := fun i => if i = r then own_upd (F r) q (F r q + 1) else F i

def own_mx (x y : Int32) : Int32 := if x < y then y else x
def own_min (x y : Int64) : Int64 := if y < x then y else x
def own_max (x y : Int64) : Int64 := if x < y then y else x
theorem own_mx_t (u v : Int32) : (u.toInt < v.toInt → (own_mx u v).toInt = v.toInt) ∧ (¬ u.toInt < v.toInt → (own_mx u v).toInt = u.toInt) := by
  unfold own_mx; rw [← Int32.lt_iff_toInt_lt]; by_cases q : u < v <;> simp [q]
theorem own_min_t (u v : Int64) : (v.toInt < u.toInt → (own_min u v).toInt = v.toInt) ∧ (¬ v.toInt < u.toInt → (own_min u v).toInt = u.toInt) := by
  unfold own_min; rw [← Int64.lt_iff_toInt_lt]; by_cases q : v < u <;> simp [q]
theorem own_max_t (u v : Int64) : (u.toInt < v.toInt → (own_max u v).toInt = v.toInt) ∧ (¬ u.toInt < v.toInt → (own_max u v).toInt = u.toInt) := by
  unfold own_max; rw [← Int64.lt_iff_toInt_lt]; by_cases q : u < v <;> simp [q]
def own_mv (ct mn : Int64) : Int64 := if ct = (0 : Int64) then (0 : Int64) else mn
theorem d10_0 : Dc jdk_29_method_65_code 0 (.iload_n 0) 1 1 := ⟨by decide +kernel, rfl⟩
theorem d10_1 : Dc jdk_29_method_65_code 1 (.iload_n 1) 1 2 := ⟨by decide +kernel, rfl⟩
theorem d10_2 : Bi jdk_29_method_65_code 2 (Instr.if_icmp .lt) 9 5 := ⟨7, by decide +kernel, by decide, by decide, rfl⟩
theorem d10_9 : Dc jdk_29_method_65_code 9 (.iload_n 1) 1 10 := ⟨by decide +kernel, rfl⟩
theorem d10_10 : Dc jdk_29_method_65_code 10 (.ireturn) 1 11 := ⟨by decide +kernel, rfl⟩
theorem d10_5 : Dc jdk_29_method_65_code 5 (.iload_n 0) 1 6 := ⟨by decide +kernel, rfl⟩
theorem d10_6 : Bi jdk_29_method_65_code 6 (Instr.goto) 10 9 := ⟨4, by decide +kernel, by decide, by decide, rfl⟩
set_option maxRecDepth 65536 in
set_option maxHeartbeats 40000000 in
theorem rmxi (l : Launch) (Z : State) (a0 : Array Value) (hw : ∀ d ∈ tables_1, d.before a0 Z = true) (u v : Int32) (h0 : Heap) :
    Met l Z (⟨"java/lang/Math", "max", "(II)I"⟩ : MethodName) jdk_29_method_65_code 2 (some .int) ({ frames := 0, cells := 0, slots := 0, locals := 0 } : Room) #[(.int u), (.int v)] h0 (fun r h' => r = some (.int (own_mx u v)) ∧ h0 = h') := by
  refine met_of (Ls := #[.val (.int u), .val (.int v)]) (Jvm.Free.JP.mathPlain rfl (by decide +kernel)) (fun m => by first | (simp [entryFrame, mkF, argsToLocals, Value.category]; done) | rfl) (fun p e s m below meth c cx => ?_)
  refine g_iloadN cx d10_0 rfl ?_
  refine g_iloadN cx d10_1 rfl ?_
  refine g_icmp_lt cx d10_2 (fun hc2 => ?_) (fun hc2 => ?_)
  · refine g_iloadN cx d10_9 rfl ?_
    refine g_retI cx d10_10 rfl (by decide) (by decide) ?_
    exact ⟨by simp [own_mx, hc2], rfl⟩
  · refine g_iloadN cx d10_5 rfl ?_
    refine g_goto cx d10_6 ?_
    refine g_retI cx d10_10 rfl (by decide) (by decide) ?_
    exact ⟨by simp [own_mx, hc2], rfl⟩
theorem d14_0 : Dc jdk_29_method_66_code 0 (.lload_n 0) 1 1 := ⟨by decide +kernel, rfl⟩
theorem d14_1 : Dc jdk_29_method_66_code 1 (.lload_n 2) 1 2 := ⟨by decide +kernel, rfl⟩
theorem d14_2 : Dc jdk_29_method_66_code 2 (.lcmp) 1 3 := ⟨by decide +kernel, rfl⟩
theorem d14_3 : Bi jdk_29_method_66_code 3 (Instr.ifCond .lt) 10 6 := ⟨7, by decide +kernel, by decide, by decide, rfl⟩
theorem d14_10 : Dc jdk_29_method_66_code 10 (.lload_n 2) 1 11 := ⟨by decide +kernel, rfl⟩
theorem d14_11 : Dc jdk_29_method_66_code 11 (.lreturn) 1 12 := ⟨by decide +kernel, rfl⟩
theorem d14_6 : Dc jdk_29_method_66_code 6 (.lload_n 0) 1 7 := ⟨by decide +kernel, rfl⟩
theorem d14_7 : Bi jdk_29_method_66_code 7 (Instr.goto) 11 10 := ⟨4, by decide +kernel, by decide, by decide, rfl⟩
set_option maxRecDepth 65536 in
set_option maxHeartbeats 40000000 in
theorem rmxl (l : Launch) (Z : State) (a0 : Array Value) (hw : ∀ d ∈ tables_1, d.before a0 Z = true) (u v : Int64) (h0 : Heap) :
    Met l Z (⟨"java/lang/Math", "max", "(JJ)J"⟩ : MethodName) jdk_29_method_66_code 4 (some .long) ({ frames := 0, cells := 0, slots := 0, locals := 0 } : Room) #[(.long u), (.long v)] h0 (fun r h' => r = some (.long (own_max u v)) ∧ h0 = h') := by
  refine met_of (Ls := #[.val (.long u), .second, .val (.long v), .second]) (Jvm.Free.JP.mathPlain rfl (by decide +kernel)) (fun m => by first | (simp [entryFrame, mkF, argsToLocals, Value.category]; done) | rfl) (fun p e s m below meth c cx => ?_)
  refine g_lloadN cx d14_0 rfl ?_
  refine g_lloadN cx d14_1 rfl ?_
  refine g_lif_lt cx d14_2 d14_3 (fun hc3 => ?_) (fun hc3 => ?_)
  · refine g_lloadN cx d14_10 rfl ?_
    refine g_retJ cx d14_11 rfl (by decide) (by decide) ?_
    exact ⟨by simp [own_max, hc3], rfl⟩
  · refine g_lloadN cx d14_6 rfl ?_
    refine g_goto cx d14_7 ?_
    refine g_retJ cx d14_11 rfl (by decide) (by decide) ?_
    exact ⟨by simp [own_max, hc3], rfl⟩
theorem d13_0 : Dc jdk_29_method_70_code 0 (.lload_n 0) 1 1 := ⟨by decide +kernel, rfl⟩
theorem d13_1 : Dc jdk_29_method_70_code 1 (.lload_n 2) 1 2 := ⟨by decide +kernel, rfl⟩
theorem d13_2 : Dc jdk_29_method_70_code 2 (.lcmp) 1 3 := ⟨by decide +kernel, rfl⟩
theorem d13_3 : Bi jdk_29_method_70_code 3 (Instr.ifCond .gt) 10 6 := ⟨7, by decide +kernel, by decide, by decide, rfl⟩
theorem d13_10 : Dc jdk_29_method_70_code 10 (.lload_n 2) 1 11 := ⟨by decide +kernel, rfl⟩
theorem d13_11 : Dc jdk_29_method_70_code 11 (.lreturn) 1 12 := ⟨by decide +kernel, rfl⟩
theorem d13_6 : Dc jdk_29_method_70_code 6 (.lload_n 0) 1 7 := ⟨by decide +kernel, rfl⟩
theorem d13_7 : Bi jdk_29_method_70_code 7 (Instr.goto) 11 10 := ⟨4, by decide +kernel, by decide, by decide, rfl⟩
set_option maxRecDepth 65536 in
set_option maxHeartbeats 40000000 in
theorem rmnl (l : Launch) (Z : State) (a0 : Array Value) (hw : ∀ d ∈ tables_1, d.before a0 Z = true) (u v : Int64) (h0 : Heap) :
    Met l Z (⟨"java/lang/Math", "min", "(JJ)J"⟩ : MethodName) jdk_29_method_70_code 4 (some .long) ({ frames := 0, cells := 0, slots := 0, locals := 0 } : Room) #[(.long u), (.long v)] h0 (fun r h' => r = some (.long (own_min u v)) ∧ h0 = h') := by
  refine met_of (Ls := #[.val (.long u), .second, .val (.long v), .second]) (Jvm.Free.JP.mathPlain rfl (by decide +kernel)) (fun m => by first | (simp [entryFrame, mkF, argsToLocals, Value.category]; done) | rfl) (fun p e s m below meth c cx => ?_)
  refine g_lloadN cx d13_0 rfl ?_
  refine g_lloadN cx d13_1 rfl ?_
  refine g_lif_gt cx d13_2 d13_3 (fun hc3 => ?_) (fun hc3 => ?_)
  · refine g_lloadN cx d13_10 rfl ?_
    refine g_retJ cx d13_11 rfl (by decide) (by decide) ?_
    exact ⟨by simp [own_min, hc3], rfl⟩
  · refine g_lloadN cx d13_6 rfl ?_
    refine g_goto cx d13_7 ?_
    refine g_retJ cx d13_11 rfl (by decide) (by decide) ?_
    exact ⟨by simp [own_min, hc3], rfl⟩
def own_n1 (i n : Int32) : Int32 := n - (((i).toUInt32 >>> ((1 : Int32) &&& 31).toUInt32).toInt32)
def own_n2 (i n : Int32) : Int32 := if i < (4 : Int32) then own_n1 i n else own_n1 (((i).toUInt32 >>> ((2 : Int32) &&& 31).toUInt32).toInt32) (n + (-2 : Int32))
def own_n3 (i n : Int32) : Int32 := if i < (16 : Int32) then own_n2 i n else own_n2 (((i).toUInt32 >>> ((4 : Int32) &&& 31).toUInt32).toInt32) (n + (-4 : Int32))
def own_n4 (i n : Int32) : Int32 := if i < (256 : Int32) then own_n3 i n else own_n3 (((i).toUInt32 >>> ((8 : Int32) &&& 31).toUInt32).toInt32) (n + (-8 : Int32))
def own_n5 (i n : Int32) : Int32 := if i < (65536 : Int32) then own_n4 i n else own_n4 (((i).toUInt32 >>> ((16 : Int32) &&& 31).toUInt32).toInt32) (n + (-16 : Int32))
def own_nlz (i : Int32) : Int32 := if (0 : Int32) < i then own_n5 i (31 : Int32) else if i = (0 : Int32) then (32 : Int32) else (0 : Int32)
theorem d9_0 : Dc jdk_33_method_47_code 0 (.iload_n 0) 1 1 := ⟨by decide +kernel, rfl⟩
theorem d9_1 : Bi jdk_33_method_47_code 1 (Instr.ifCond .gt) 15 4 := ⟨14, by decide +kernel, by decide, by decide, rfl⟩
theorem d9_15 : Dc jdk_33_method_47_code 15 (.bipush 31) 2 17 := ⟨by decide +kernel, rfl⟩
theorem d9_17 : Dc jdk_33_method_47_code 17 (.istore_n 1) 1 18 := ⟨by decide +kernel, rfl⟩
theorem d9_18 : Dc jdk_33_method_47_code 18 (.iload_n 0) 1 19 := ⟨by decide +kernel, rfl⟩
theorem d9_19 : Dc jdk_33_method_47_code 19 (.ldc_w 264) 3 22 := ⟨by decide +kernel, rfl⟩
theorem d9_22 : Bi jdk_33_method_47_code 22 (Instr.if_icmp .lt) 33 25 := ⟨11, by decide +kernel, by decide, by decide, rfl⟩
theorem d9_33 : Dc jdk_33_method_47_code 33 (.iload_n 0) 1 34 := ⟨by decide +kernel, rfl⟩
theorem d9_34 : Dc jdk_33_method_47_code 34 (.sipush 256) 3 37 := ⟨by decide +kernel, rfl⟩
theorem d9_37 : Bi jdk_33_method_47_code 37 (Instr.if_icmp .lt) 48 40 := ⟨11, by decide +kernel, by decide, by decide, rfl⟩
theorem d9_48 : Dc jdk_33_method_47_code 48 (.iload_n 0) 1 49 := ⟨by decide +kernel, rfl⟩
theorem d9_49 : Dc jdk_33_method_47_code 49 (.bipush 16) 2 51 := ⟨by decide +kernel, rfl⟩
theorem d9_51 : Bi jdk_33_method_47_code 51 (Instr.if_icmp .lt) 61 54 := ⟨10, by decide +kernel, by decide, by decide, rfl⟩
theorem d9_61 : Dc jdk_33_method_47_code 61 (.iload_n 0) 1 62 := ⟨by decide +kernel, rfl⟩
theorem d9_62 : Dc jdk_33_method_47_code 62 (.iconst 4) 1 63 := ⟨by decide +kernel, rfl⟩
theorem d9_63 : Bi jdk_33_method_47_code 63 (Instr.if_icmp .lt) 73 66 := ⟨10, by decide +kernel, by decide, by decide, rfl⟩
theorem d9_73 : Dc jdk_33_method_47_code 73 (.iload_n 1) 1 74 := ⟨by decide +kernel, rfl⟩
theorem d9_74 : Dc jdk_33_method_47_code 74 (.iload_n 0) 1 75 := ⟨by decide +kernel, rfl⟩
theorem d9_75 : Dc jdk_33_method_47_code 75 (.iconst 1) 1 76 := ⟨by decide +kernel, rfl⟩
theorem d9_76 : Dc jdk_33_method_47_code 76 (.iushr) 1 77 := ⟨by decide +kernel, rfl⟩
theorem d9_77 : Dc jdk_33_method_47_code 77 (.isub) 1 78 := ⟨by decide +kernel, rfl⟩
theorem d9_78 : Dc jdk_33_method_47_code 78 (.ireturn) 1 79 := ⟨by decide +kernel, rfl⟩
theorem d9_66 : Dc jdk_33_method_47_code 66 (.iinc 1 (-2)) 3 69 := ⟨by decide +kernel, rfl⟩
theorem d9_69 : Dc jdk_33_method_47_code 69 (.iload_n 0) 1 70 := ⟨by decide +kernel, rfl⟩
theorem d9_70 : Dc jdk_33_method_47_code 70 (.iconst 2) 1 71 := ⟨by decide +kernel, rfl⟩
theorem d9_71 : Dc jdk_33_method_47_code 71 (.iushr) 1 72 := ⟨by decide +kernel, rfl⟩
theorem d9_72 : Dc jdk_33_method_47_code 72 (.istore_n 0) 1 73 := ⟨by decide +kernel, rfl⟩
theorem d9_54 : Dc jdk_33_method_47_code 54 (.iinc 1 (-4)) 3 57 := ⟨by decide +kernel, rfl⟩
theorem d9_57 : Dc jdk_33_method_47_code 57 (.iload_n 0) 1 58 := ⟨by decide +kernel, rfl⟩
theorem d9_58 : Dc jdk_33_method_47_code 58 (.iconst 4) 1 59 := ⟨by decide +kernel, rfl⟩
theorem d9_59 : Dc jdk_33_method_47_code 59 (.iushr) 1 60 := ⟨by decide +kernel, rfl⟩
theorem d9_60 : Dc jdk_33_method_47_code 60 (.istore_n 0) 1 61 := ⟨by decide +kernel, rfl⟩
theorem d9_40 : Dc jdk_33_method_47_code 40 (.iinc 1 (-8)) 3 43 := ⟨by decide +kernel, rfl⟩
theorem d9_43 : Dc jdk_33_method_47_code 43 (.iload_n 0) 1 44 := ⟨by decide +kernel, rfl⟩
theorem d9_44 : Dc jdk_33_method_47_code 44 (.bipush 8) 2 46 := ⟨by decide +kernel, rfl⟩
theorem d9_46 : Dc jdk_33_method_47_code 46 (.iushr) 1 47 := ⟨by decide +kernel, rfl⟩
theorem d9_47 : Dc jdk_33_method_47_code 47 (.istore_n 0) 1 48 := ⟨by decide +kernel, rfl⟩
theorem d9_25 : Dc jdk_33_method_47_code 25 (.iinc 1 (-16)) 3 28 := ⟨by decide +kernel, rfl⟩
theorem d9_28 : Dc jdk_33_method_47_code 28 (.iload_n 0) 1 29 := ⟨by decide +kernel, rfl⟩
theorem d9_29 : Dc jdk_33_method_47_code 29 (.bipush 16) 2 31 := ⟨by decide +kernel, rfl⟩
theorem d9_31 : Dc jdk_33_method_47_code 31 (.iushr) 1 32 := ⟨by decide +kernel, rfl⟩
theorem d9_32 : Dc jdk_33_method_47_code 32 (.istore_n 0) 1 33 := ⟨by decide +kernel, rfl⟩
theorem d9_4 : Dc jdk_33_method_47_code 4 (.iload_n 0) 1 5 := ⟨by decide +kernel, rfl⟩
theorem d9_5 : Bi jdk_33_method_47_code 5 (Instr.ifCond .ne) 13 8 := ⟨8, by decide +kernel, by decide, by decide, rfl⟩
theorem d9_13 : Dc jdk_33_method_47_code 13 (.iconst 0) 1 14 := ⟨by decide +kernel, rfl⟩
theorem d9_14 : Dc jdk_33_method_47_code 14 (.ireturn) 1 15 := ⟨by decide +kernel, rfl⟩
theorem d9_8 : Dc jdk_33_method_47_code 8 (.bipush 32) 2 10 := ⟨by decide +kernel, rfl⟩
theorem d9_10 : Bi jdk_33_method_47_code 10 (Instr.goto) 14 13 := ⟨4, by decide +kernel, by decide, by decide, rfl⟩
theorem pn_rmnz : plainName "java/lang/Integer" = true := by first | (simp [plainName, overriddenIn]; done) | decide +kernel
set_option maxRecDepth 65536 in
set_option maxHeartbeats 40000000 in
theorem rmnz (l : Launch) (Z : State) (a0 : Array Value) (hw : ∀ d ∈ tables_1, d.before a0 Z = true) (y : Int32) (h0 : Heap) :
    Met l Z (⟨"java/lang/Integer", "numberOfLeadingZeros", "(I)I"⟩ : MethodName) jdk_33_method_47_code 2 (some .int) ({ frames := 0, cells := 0, slots := 0, locals := 0 } : Room) #[(.int y)] h0 (fun r h' => r = some (.int (own_nlz y)) ∧ h0 = h' ∧ 0 ≤ (own_nlz y).toInt ∧ (own_nlz y).toInt ≤ 32 ∧ (0 < y.toInt → 1 ≤ (own_nlz y).toInt)) := by
  refine met_of (Ls := #[.val (.int y), .unset]) (plainFor_of_name pn_rmnz) (fun m => by first | (simp [entryFrame, mkF, argsToLocals, Value.category]; done) | rfl) (fun p e s m below meth c cx => ?_)
  refine g_iloadN cx d9_0 rfl ?_
  refine g_if_gt cx d9_1 (fun hc1 => ?_) (fun hc1 => ?_)
  · refine g_bipush cx d9_15 (v := (31 : Int32)) rfl ?_
    refine g_istoreN cx d9_17 (Ls' := #[.val (.int y), .val (.int (31 : Int32))]) rfl ?_
    refine g_iloadN cx d9_18 rfl ?_
    refine g_ldcwI cx d9_19 (hw _ (List.mem_of_getElem? (i := 55) rfl)) ?_
    refine g_icmp_lt cx d9_22 (fun hc22 => ?_) (fun hc22 => ?_)
    · refine g_iloadN cx d9_33 rfl ?_
      refine g_sipush cx d9_34 (v := (256 : Int32)) rfl ?_
      refine g_icmp_lt cx d9_37 (fun hc37 => ?_) (fun hc37 => ?_)
      · refine g_iloadN cx d9_48 rfl ?_
        refine g_bipush cx d9_49 (v := (16 : Int32)) rfl ?_
        refine g_icmp_lt cx d9_51 (fun hc51 => ?_) (fun hc51 => ?_)
        · refine g_iloadN cx d9_61 rfl ?_
          refine g_iconst cx d9_62 (v := (4 : Int32)) rfl ?_
          refine g_icmp_lt cx d9_63 (fun hc63 => ?_) (fun hc63 => ?_)
          · refine g_iloadN cx d9_73 rfl ?_
            refine g_iloadN cx d9_74 rfl ?_
            refine g_iconst cx d9_75 (v := (1 : Int32)) rfl ?_
            refine g_iushr cx d9_76 ?_
            refine g_isub cx d9_77 ?_
            refine g_retI cx d9_78 rfl (by decide) (by decide) ?_
            have E : own_nlz y = ((31 : Int32) - (((y).toUInt32 >>> ((1 : Int32) &&& 31).toUInt32).toInt32)) := by
              unfold own_nlz
              rw [if_pos hc1]
              unfold own_n5
              rw [if_pos hc22]
              unfold own_n4
              rw [if_pos hc37]
              unfold own_n3
              rw [if_pos hc51]
              unfold own_n2
              rw [if_pos hc63]
              rfl
            have i_hc1 : ((0 : Int32)).toInt < (y).toInt := Int32.lt_iff_toInt_lt.mp hc1
            have i_hc22 : (y).toInt < ((65536 : Int32)).toInt := Int32.lt_iff_toInt_lt.mp hc22
            have i_hc37 : (y).toInt < ((256 : Int32)).toInt := Int32.lt_iff_toInt_lt.mp hc37
            have i_hc51 : (y).toInt < ((16 : Int32)).toInt := Int32.lt_iff_toInt_lt.mp hc51
            have i_hc63 : (y).toInt < ((4 : Int32)).toInt := Int32.lt_iff_toInt_lt.mp hc63
            have e1 : (0 : Int32).toInt = 0 := rfl
            have r2 := rng32 y
            have e3 : (65536 : Int32).toInt = 65536 := rfl
            have e4 : (256 : Int32).toInt = 256 := rfl
            have e5 : (16 : Int32).toInt = 16 := rfl
            have e6 : (4 : Int32).toInt = 4 := rfl
            have e8 : (31 : Int32).toInt = 31 := rfl
            have e9 : ((((y).toUInt32 >>> ((1 : Int32) &&& 31).toUInt32).toInt32)).toInt = ((y).toInt % 4294967296) / 2 := c_iushr y (1 : Int32) 1 (by decide) (by decide)
            have e7 := c_isub (31 : Int32) (((y).toUInt32 >>> ((1 : Int32) &&& 31).toUInt32).toInt32)
            have r7 := rng32 ((31 : Int32) - (((y).toUInt32 >>> ((1 : Int32) &&& 31).toUInt32).toInt32))
            refine ⟨by rw [E], rfl, ?_⟩
            rw [E]
            refine ⟨by omega, by omega, fun _ => by omega⟩
          · refine g_iinc cx d9_66 rfl (v := (-2 : Int32)) rfl (Ls' := #[.val (.int y), .val (.int (29 : Int32))]) rfl ?_
            refine g_iloadN cx d9_69 rfl ?_
            refine g_iconst cx d9_70 (v := (2 : Int32)) rfl ?_
            refine g_iushr cx d9_71 ?_
            refine g_istoreN cx d9_72 (Ls' := #[.val (.int (((y).toUInt32 >>> ((2 : Int32) &&& 31).toUInt32).toInt32)), .val (.int (29 : Int32))]) rfl ?_
            refine g_iloadN cx d9_73 rfl ?_
            refine g_iloadN cx d9_74 rfl ?_
            refine g_iconst cx d9_75 (v := (1 : Int32)) rfl ?_
            refine g_iushr cx d9_76 ?_
            refine g_isub cx d9_77 ?_
            refine g_retI cx d9_78 rfl (by decide) (by decide) ?_
            have E : own_nlz y = ((29 : Int32) - ((((((y).toUInt32 >>> ((2 : Int32) &&& 31).toUInt32).toInt32)).toUInt32 >>> ((1 : Int32) &&& 31).toUInt32).toInt32)) := by
              unfold own_nlz
              rw [if_pos hc1]
              unfold own_n5
              rw [if_pos hc22]
              unfold own_n4
              rw [if_pos hc37]
              unfold own_n3
              rw [if_pos hc51]
              unfold own_n2
              rw [if_neg hc63]
              rfl
            have i_hc1 : ((0 : Int32)).toInt < (y).toInt := Int32.lt_iff_toInt_lt.mp hc1
            have i_hc22 : (y).toInt < ((65536 : Int32)).toInt := Int32.lt_iff_toInt_lt.mp hc22
            have i_hc37 : (y).toInt < ((256 : Int32)).toInt := Int32.lt_iff_toInt_lt.mp hc37
            have i_hc51 : (y).toInt < ((16 : Int32)).toInt := Int32.lt_iff_toInt_lt.mp hc51
            have i_hc63 : ¬ (y).toInt < ((4 : Int32)).toInt := fun z => hc63 (Int32.lt_iff_toInt_lt.mpr z)
            have e1 : (0 : Int32).toInt = 0 := rfl
            have r2 := rng32 y
            have e3 : (65536 : Int32).toInt = 65536 := rfl
            have e4 : (256 : Int32).toInt = 256 := rfl
            have e5 : (16 : Int32).toInt = 16 := rfl
            have e6 : (4 : Int32).toInt = 4 := rfl
            have e8 : (29 : Int32).toInt = 29 := rfl
            have e10 : ((((y).toUInt32 >>> ((2 : Int32) &&& 31).toUInt32).toInt32)).toInt = ((y).toInt % 4294967296) / 4 := c_iushr y (2 : Int32) 2 (by decide) (by decide)
            have e9 : (((((((y).toUInt32 >>> ((2 : Int32) &&& 31).toUInt32).toInt32)).toUInt32 >>> ((1 : Int32) &&& 31).toUInt32).toInt32)).toInt = (((((y).toUInt32 >>> ((2 : Int32) &&& 31).toUInt32).toInt32)).toInt % 4294967296) / 2 := c_iushr (((y).toUInt32 >>> ((2 : Int32) &&& 31).toUInt32).toInt32) (1 : Int32) 1 (by decide) (by decide)
            have e7 := c_isub (29 : Int32) ((((((y).toUInt32 >>> ((2 : Int32) &&& 31).toUInt32).toInt32)).toUInt32 >>> ((1 : Int32) &&& 31).toUInt32).toInt32)
            have r7 := rng32 ((29 : Int32) - ((((((y).toUInt32 >>> ((2 : Int32) &&& 31).toUInt32).toInt32)).toUInt32 >>> ((1 : Int32) &&& 31).toUInt32).toInt32))
            refine ⟨by rw [E], rfl, ?_⟩
            rw [E]
            refine ⟨by omega, by omega, fun _ => by omega⟩
        · refine g_iinc cx d9_54 rfl (v := (-4 : Int32)) rfl (Ls' := #[.val (.int y), .val (.int (27 : Int32))]) rfl ?_
          refine g_iloadN cx d9_57 rfl ?_
          refine g_iconst cx d9_58 (v := (4 : Int32)) rfl ?_
          refine g_iushr cx d9_59 ?_
          refine g_istoreN cx d9_60 (Ls' := #[.val (.int (((y).toUInt32 >>> ((4 : Int32) &&& 31).toUInt32).toInt32)), .val (.int (27 : Int32))]) rfl ?_
          refine g_iloadN cx d9_61 rfl ?_
          refine g_iconst cx d9_62 (v := (4 : Int32)) rfl ?_
          refine g_icmp_lt cx d9_63 (fun hc63 => ?_) (fun hc63 => ?_)
          · refine g_iloadN cx d9_73 rfl ?_
            refine g_iloadN cx d9_74 rfl ?_
            refine g_iconst cx d9_75 (v := (1 : Int32)) rfl ?_
            refine g_iushr cx d9_76 ?_
            refine g_isub cx d9_77 ?_
            refine g_retI cx d9_78 rfl (by decide) (by decide) ?_
            have E : own_nlz y = ((27 : Int32) - ((((((y).toUInt32 >>> ((4 : Int32) &&& 31).toUInt32).toInt32)).toUInt32 >>> ((1 : Int32) &&& 31).toUInt32).toInt32)) := by
              unfold own_nlz
              rw [if_pos hc1]
              unfold own_n5
              rw [if_pos hc22]
              unfold own_n4
              rw [if_pos hc37]
              unfold own_n3
              rw [if_neg hc51]
              unfold own_n2
              rw [if_pos hc63]
              rfl
            have i_hc1 : ((0 : Int32)).toInt < (y).toInt := Int32.lt_iff_toInt_lt.mp hc1
            have i_hc22 : (y).toInt < ((65536 : Int32)).toInt := Int32.lt_iff_toInt_lt.mp hc22
            have i_hc37 : (y).toInt < ((256 : Int32)).toInt := Int32.lt_iff_toInt_lt.mp hc37
            have i_hc51 : ¬ (y).toInt < ((16 : Int32)).toInt := fun z => hc51 (Int32.lt_iff_toInt_lt.mpr z)
            have i_hc63 : ((((y).toUInt32 >>> ((4 : Int32) &&& 31).toUInt32).toInt32)).toInt < ((4 : Int32)).toInt := Int32.lt_iff_toInt_lt.mp hc63
            have e1 : (0 : Int32).toInt = 0 := rfl
            have r2 := rng32 y
            have e3 : (65536 : Int32).toInt = 65536 := rfl
            have e4 : (256 : Int32).toInt = 256 := rfl
            have e5 : (16 : Int32).toInt = 16 := rfl
            have e6 : ((((y).toUInt32 >>> ((4 : Int32) &&& 31).toUInt32).toInt32)).toInt = ((y).toInt % 4294967296) / 16 := c_iushr y (4 : Int32) 4 (by decide) (by decide)
            have e7 : (4 : Int32).toInt = 4 := rfl
            have e9 : (27 : Int32).toInt = 27 := rfl
            have e10 : (((((((y).toUInt32 >>> ((4 : Int32) &&& 31).toUInt32).toInt32)).toUInt32 >>> ((1 : Int32) &&& 31).toUInt32).toInt32)).toInt = (((((y).toUInt32 >>> ((4 : Int32) &&& 31).toUInt32).toInt32)).toInt % 4294967296) / 2 := c_iushr (((y).toUInt32 >>> ((4 : Int32) &&& 31).toUInt32).toInt32) (1 : Int32) 1 (by decide) (by decide)
            have e8 := c_isub (27 : Int32) ((((((y).toUInt32 >>> ((4 : Int32) &&& 31).toUInt32).toInt32)).toUInt32 >>> ((1 : Int32) &&& 31).toUInt32).toInt32)
            have r8 := rng32 ((27 : Int32) - ((((((y).toUInt32 >>> ((4 : Int32) &&& 31).toUInt32).toInt32)).toUInt32 >>> ((1 : Int32) &&& 31).toUInt32).toInt32))
            refine ⟨by rw [E], rfl, ?_⟩
            rw [E]
            refine ⟨by omega, by omega, fun _ => by omega⟩
          · refine g_iinc cx d9_66 rfl (v := (-2 : Int32)) rfl (Ls' := #[.val (.int (((y).toUInt32 >>> ((4 : Int32) &&& 31).toUInt32).toInt32)), .val (.int (25 : Int32))]) rfl ?_
            refine g_iloadN cx d9_69 rfl ?_
            refine g_iconst cx d9_70 (v := (2 : Int32)) rfl ?_
            refine g_iushr cx d9_71 ?_
            refine g_istoreN cx d9_72 (Ls' := #[.val (.int ((((((y).toUInt32 >>> ((4 : Int32) &&& 31).toUInt32).toInt32)).toUInt32 >>> ((2 : Int32) &&& 31).toUInt32).toInt32)), .val (.int (25 : Int32))]) rfl ?_
            refine g_iloadN cx d9_73 rfl ?_
            refine g_iloadN cx d9_74 rfl ?_
            refine g_iconst cx d9_75 (v := (1 : Int32)) rfl ?_
            refine g_iushr cx d9_76 ?_
            refine g_isub cx d9_77 ?_
            refine g_retI cx d9_78 rfl (by decide) (by decide) ?_
            have E : own_nlz y = ((25 : Int32) - (((((((((y).toUInt32 >>> ((4 : Int32) &&& 31).toUInt32).toInt32)).toUInt32 >>> ((2 : Int32) &&& 31).toUInt32).toInt32)).toUInt32 >>> ((1 : Int32) &&& 31).toUInt32).toInt32)) := by
              unfold own_nlz
              rw [if_pos hc1]
              unfold own_n5
              rw [if_pos hc22]
              unfold own_n4
              rw [if_pos hc37]
              unfold own_n3
              rw [if_neg hc51]
              unfold own_n2
              rw [if_neg hc63]
              rfl
            have i_hc1 : ((0 : Int32)).toInt < (y).toInt := Int32.lt_iff_toInt_lt.mp hc1
            have i_hc22 : (y).toInt < ((65536 : Int32)).toInt := Int32.lt_iff_toInt_lt.mp hc22
            have i_hc37 : (y).toInt < ((256 : Int32)).toInt := Int32.lt_iff_toInt_lt.mp hc37
            have i_hc51 : ¬ (y).toInt < ((16 : Int32)).toInt := fun z => hc51 (Int32.lt_iff_toInt_lt.mpr z)
            have i_hc63 : ¬ ((((y).toUInt32 >>> ((4 : Int32) &&& 31).toUInt32).toInt32)).toInt < ((4 : Int32)).toInt := fun z => hc63 (Int32.lt_iff_toInt_lt.mpr z)
            have e1 : (0 : Int32).toInt = 0 := rfl
            have r2 := rng32 y
            have e3 : (65536 : Int32).toInt = 65536 := rfl
            have e4 : (256 : Int32).toInt = 256 := rfl
            have e5 : (16 : Int32).toInt = 16 := rfl
            have e6 : ((((y).toUInt32 >>> ((4 : Int32) &&& 31).toUInt32).toInt32)).toInt = ((y).toInt % 4294967296) / 16 := c_iushr y (4 : Int32) 4 (by decide) (by decide)
            have e7 : (4 : Int32).toInt = 4 := rfl
            have e9 : (25 : Int32).toInt = 25 := rfl
            have e11 : (((((((y).toUInt32 >>> ((4 : Int32) &&& 31).toUInt32).toInt32)).toUInt32 >>> ((2 : Int32) &&& 31).toUInt32).toInt32)).toInt = (((((y).toUInt32 >>> ((4 : Int32) &&& 31).toUInt32).toInt32)).toInt % 4294967296) / 4 := c_iushr (((y).toUInt32 >>> ((4 : Int32) &&& 31).toUInt32).toInt32) (2 : Int32) 2 (by decide) (by decide)
            have e10 : ((((((((((y).toUInt32 >>> ((4 : Int32) &&& 31).toUInt32).toInt32)).toUInt32 >>> ((2 : Int32) &&& 31).toUInt32).toInt32)).toUInt32 >>> ((1 : Int32) &&& 31).toUInt32).toInt32)).toInt = ((((((((y).toUInt32 >>> ((4 : Int32) &&& 31).toUInt32).toInt32)).toUInt32 >>> ((2 : Int32) &&& 31).toUInt32).toInt32)).toInt % 4294967296) / 2 := c_iushr ((((((y).toUInt32 >>> ((4 : Int32) &&& 31).toUInt32).toInt32)).toUInt32 >>> ((2 : Int32) &&& 31).toUInt32).toInt32) (1 : Int32) 1 (by decide) (by decide)
            have e8 := c_isub (25 : Int32) (((((((((y).toUInt32 >>> ((4 : Int32) &&& 31).toUInt32).toInt32)).toUInt32 >>> ((2 : Int32) &&& 31).toUInt32).toInt32)).toUInt32 >>> ((1 : Int32) &&& 31).toUInt32).toInt32)
            have r8 := rng32 ((25 : Int32) - (((((((((y).toUInt32 >>> ((4 : Int32) &&& 31).toUInt32).toInt32)).toUInt32 >>> ((2 : Int32) &&& 31).toUInt32).toInt32)).toUInt32 >>> ((1 : Int32) &&& 31).toUInt32).toInt32))
            refine ⟨by rw [E], rfl, ?_⟩
            rw [E]
            refine ⟨by omega, by omega, fun _ => by omega⟩
      · refine g_iinc cx d9_40 rfl (v := (-8 : Int32)) rfl (Ls' := #[.val (.int y), .val (.int (23 : Int32))]) rfl ?_
        refine g_iloadN cx d9_43 rfl ?_
        refine g_bipush cx d9_44 (v := (8 : Int32)) rfl ?_
        refine g_iushr cx d9_46 ?_
        refine g_istoreN cx d9_47 (Ls' := #[.val (.int (((y).toUInt32 >>> ((8 : Int32) &&& 31).toUInt32).toInt32)), .val (.int (23 : Int32))]) rfl ?_
        refine g_iloadN cx d9_48 rfl ?_
        refine g_bipush cx d9_49 (v := (16 : Int32)) rfl ?_
        refine g_icmp_lt cx d9_51 (fun hc51 => ?_) (fun hc51 => ?_)
        · refine g_iloadN cx d9_61 rfl ?_
          refine g_iconst cx d9_62 (v := (4 : Int32)) rfl ?_
          refine g_icmp_lt cx d9_63 (fun hc63 => ?_) (fun hc63 => ?_)
          · refine g_iloadN cx d9_73 rfl ?_
            refine g_iloadN cx d9_74 rfl ?_
            refine g_iconst cx d9_75 (v := (1 : Int32)) rfl ?_
            refine g_iushr cx d9_76 ?_
            refine g_isub cx d9_77 ?_
            refine g_retI cx d9_78 rfl (by decide) (by decide) ?_
            have E : own_nlz y = ((23 : Int32) - ((((((y).toUInt32 >>> ((8 : Int32) &&& 31).toUInt32).toInt32)).toUInt32 >>> ((1 : Int32) &&& 31).toUInt32).toInt32)) := by
              unfold own_nlz
              rw [if_pos hc1]
              unfold own_n5
              rw [if_pos hc22]
              unfold own_n4
              rw [if_neg hc37]
              unfold own_n3
              rw [if_pos hc51]
              unfold own_n2
              rw [if_pos hc63]
              rfl
            have i_hc1 : ((0 : Int32)).toInt < (y).toInt := Int32.lt_iff_toInt_lt.mp hc1
            have i_hc22 : (y).toInt < ((65536 : Int32)).toInt := Int32.lt_iff_toInt_lt.mp hc22
            have i_hc37 : ¬ (y).toInt < ((256 : Int32)).toInt := fun z => hc37 (Int32.lt_iff_toInt_lt.mpr z)
            have i_hc51 : ((((y).toUInt32 >>> ((8 : Int32) &&& 31).toUInt32).toInt32)).toInt < ((16 : Int32)).toInt := Int32.lt_iff_toInt_lt.mp hc51
            have i_hc63 : ((((y).toUInt32 >>> ((8 : Int32) &&& 31).toUInt32).toInt32)).toInt < ((4 : Int32)).toInt := Int32.lt_iff_toInt_lt.mp hc63
            have e1 : (0 : Int32).toInt = 0 := rfl
            have r2 := rng32 y
            have e3 : (65536 : Int32).toInt = 65536 := rfl
            have e4 : (256 : Int32).toInt = 256 := rfl
            have e5 : ((((y).toUInt32 >>> ((8 : Int32) &&& 31).toUInt32).toInt32)).toInt = ((y).toInt % 4294967296) / 256 := c_iushr y (8 : Int32) 8 (by decide) (by decide)
            have e6 : (16 : Int32).toInt = 16 := rfl
            have e7 : (4 : Int32).toInt = 4 := rfl
            have e9 : (23 : Int32).toInt = 23 := rfl
            have e10 : (((((((y).toUInt32 >>> ((8 : Int32) &&& 31).toUInt32).toInt32)).toUInt32 >>> ((1 : Int32) &&& 31).toUInt32).toInt32)).toInt = (((((y).toUInt32 >>> ((8 : Int32) &&& 31).toUInt32).toInt32)).toInt % 4294967296) / 2 := c_iushr (((y).toUInt32 >>> ((8 : Int32) &&& 31).toUInt32).toInt32) (1 : Int32) 1 (by decide) (by decide)
            have e8 := c_isub (23 : Int32) ((((((y).toUInt32 >>> ((8 : Int32) &&& 31).toUInt32).toInt32)).toUInt32 >>> ((1 : Int32) &&& 31).toUInt32).toInt32)
            have r8 := rng32 ((23 : Int32) - ((((((y).toUInt32 >>> ((8 : Int32) &&& 31).toUInt32).toInt32)).toUInt32 >>> ((1 : Int32) &&& 31).toUInt32).toInt32))
            refine ⟨by rw [E], rfl, ?_⟩
            rw [E]
            refine ⟨by omega, by omega, fun _ => by omega⟩
          · refine g_iinc cx d9_66 rfl (v := (-2 : Int32)) rfl (Ls' := #[.val (.int (((y).toUInt32 >>> ((8 : Int32) &&& 31).toUInt32).toInt32)), .val (.int (21 : Int32))]) rfl ?_
            refine g_iloadN cx d9_69 rfl ?_
            refine g_iconst cx d9_70 (v := (2 : Int32)) rfl ?_
            refine g_iushr cx d9_71 ?_
            refine g_istoreN cx d9_72 (Ls' := #[.val (.int ((((((y).toUInt32 >>> ((8 : Int32) &&& 31).toUInt32).toInt32)).toUInt32 >>> ((2 : Int32) &&& 31).toUInt32).toInt32)), .val (.int (21 : Int32))]) rfl ?_
            refine g_iloadN cx d9_73 rfl ?_
            refine g_iloadN cx d9_74 rfl ?_
            refine g_iconst cx d9_75 (v := (1 : Int32)) rfl ?_
            refine g_iushr cx d9_76 ?_
            refine g_isub cx d9_77 ?_
            refine g_retI cx d9_78 rfl (by decide) (by decide) ?_
            have E : own_nlz y = ((21 : Int32) - (((((((((y).toUInt32 >>> ((8 : Int32) &&& 31).toUInt32).toInt32)).toUInt32 >>> ((2 : Int32) &&& 31).toUInt32).toInt32)).toUInt32 >>> ((1 : Int32) &&& 31).toUInt32).toInt32)) := by
              unfold own_nlz
              rw [if_pos hc1]
              unfold own_n5
              rw [if_pos hc22]
              unfold own_n4
              rw [if_neg hc37]
              unfold own_n3
              rw [if_pos hc51]
              unfold own_n2
              rw [if_neg hc63]
              rfl
            have i_hc1 : ((0 : Int32)).toInt < (y).toInt := Int32.lt_iff_toInt_lt.mp hc1
            have i_hc22 : (y).toInt < ((65536 : Int32)).toInt := Int32.lt_iff_toInt_lt.mp hc22
            have i_hc37 : ¬ (y).toInt < ((256 : Int32)).toInt := fun z => hc37 (Int32.lt_iff_toInt_lt.mpr z)
            have i_hc51 : ((((y).toUInt32 >>> ((8 : Int32) &&& 31).toUInt32).toInt32)).toInt < ((16 : Int32)).toInt := Int32.lt_iff_toInt_lt.mp hc51
            have i_hc63 : ¬ ((((y).toUInt32 >>> ((8 : Int32) &&& 31).toUInt32).toInt32)).toInt < ((4 : Int32)).toInt := fun z => hc63 (Int32.lt_iff_toInt_lt.mpr z)
            have e1 : (0 : Int32).toInt = 0 := rfl
            have r2 := rng32 y
            have e3 : (65536 : Int32).toInt = 65536 := rfl
            have e4 : (256 : Int32).toInt = 256 := rfl
            have e5 : ((((y).toUInt32 >>> ((8 : Int32) &&& 31).toUInt32).toInt32)).toInt = ((y).toInt % 4294967296) / 256 := c_iushr y (8 : Int32) 8 (by decide) (by decide)
            have e6 : (16 : Int32).toInt = 16 := rfl
            have e7 : (4 : Int32).toInt = 4 := rfl
            have e9 : (21 : Int32).toInt = 21 := rfl
            have e11 : (((((((y).toUInt32 >>> ((8 : Int32) &&& 31).toUInt32).toInt32)).toUInt32 >>> ((2 : Int32) &&& 31).toUInt32).toInt32)).toInt = (((((y).toUInt32 >>> ((8 : Int32) &&& 31).toUInt32).toInt32)).toInt % 4294967296) / 4 := c_iushr (((y).toUInt32 >>> ((8 : Int32) &&& 31).toUInt32).toInt32) (2 : Int32) 2 (by decide) (by decide)
            have e10 : ((((((((((y).toUInt32 >>> ((8 : Int32) &&& 31).toUInt32).toInt32)).toUInt32 >>> ((2 : Int32) &&& 31).toUInt32).toInt32)).toUInt32 >>> ((1 : Int32) &&& 31).toUInt32).toInt32)).toInt = ((((((((y).toUInt32 >>> ((8 : Int32) &&& 31).toUInt32).toInt32)).toUInt32 >>> ((2 : Int32) &&& 31).toUInt32).toInt32)).toInt % 4294967296) / 2 := c_iushr ((((((y).toUInt32 >>> ((8 : Int32) &&& 31).toUInt32).toInt32)).toUInt32 >>> ((2 : Int32) &&& 31).toUInt32).toInt32) (1 : Int32) 1 (by decide) (by decide)
            have e8 := c_isub (21 : Int32) (((((((((y).toUInt32 >>> ((8 : Int32) &&& 31).toUInt32).toInt32)).toUInt32 >>> ((2 : Int32) &&& 31).toUInt32).toInt32)).toUInt32 >>> ((1 : Int32) &&& 31).toUInt32).toInt32)
            have r8 := rng32 ((21 : Int32) - (((((((((y).toUInt32 >>> ((8 : Int32) &&& 31).toUInt32).toInt32)).toUInt32 >>> ((2 : Int32) &&& 31).toUInt32).toInt32)).toUInt32 >>> ((1 : Int32) &&& 31).toUInt32).toInt32))
            refine ⟨by rw [E], rfl, ?_⟩
            rw [E]
            refine ⟨by omega, by omega, fun _ => by omega⟩
        · refine g_iinc cx d9_54 rfl (v := (-4 : Int32)) rfl (Ls' := #[.val (.int (((y).toUInt32 >>> ((8 : Int32) &&& 31).toUInt32).toInt32)), .val (.int (19 : Int32))]) rfl ?_
          refine g_iloadN cx d9_57 rfl ?_
          refine g_iconst cx d9_58 (v := (4 : Int32)) rfl ?_
          refine g_iushr cx d9_59 ?_
          refine g_istoreN cx d9_60 (Ls' := #[.val (.int ((((((y).toUInt32 >>> ((8 : Int32) &&& 31).toUInt32).toInt32)).toUInt32 >>> ((4 : Int32) &&& 31).toUInt32).toInt32)), .val (.int (19 : Int32))]) rfl ?_
          refine g_iloadN cx d9_61 rfl ?_
          refine g_iconst cx d9_62 (v := (4 : Int32)) rfl ?_
          refine g_icmp_lt cx d9_63 (fun hc63 => ?_) (fun hc63 => ?_)
          · refine g_iloadN cx d9_73 rfl ?_
            refine g_iloadN cx d9_74 rfl ?_
            refine g_iconst cx d9_75 (v := (1 : Int32)) rfl ?_
            refine g_iushr cx d9_76 ?_
            refine g_isub cx d9_77 ?_
            refine g_retI cx d9_78 rfl (by decide) (by decide) ?_
            have E : own_nlz y = ((19 : Int32) - (((((((((y).toUInt32 >>> ((8 : Int32) &&& 31).toUInt32).toInt32)).toUInt32 >>> ((4 : Int32) &&& 31).toUInt32).toInt32)).toUInt32 >>> ((1 : Int32) &&& 31).toUInt32).toInt32)) := by
              unfold own_nlz
              rw [if_pos hc1]
              unfold own_n5
              rw [if_pos hc22]
              unfold own_n4
              rw [if_neg hc37]
              unfold own_n3
              rw [if_neg hc51]
              unfold own_n2
              rw [if_pos hc63]
              rfl
            have i_hc1 : ((0 : Int32)).toInt < (y).toInt := Int32.lt_iff_toInt_lt.mp hc1
            have i_hc22 : (y).toInt < ((65536 : Int32)).toInt := Int32.lt_iff_toInt_lt.mp hc22
            have i_hc37 : ¬ (y).toInt < ((256 : Int32)).toInt := fun z => hc37 (Int32.lt_iff_toInt_lt.mpr z)
            have i_hc51 : ¬ ((((y).toUInt32 >>> ((8 : Int32) &&& 31).toUInt32).toInt32)).toInt < ((16 : Int32)).toInt := fun z => hc51 (Int32.lt_iff_toInt_lt.mpr z)
            have i_hc63 : (((((((y).toUInt32 >>> ((8 : Int32) &&& 31).toUInt32).toInt32)).toUInt32 >>> ((4 : Int32) &&& 31).toUInt32).toInt32)).toInt < ((4 : Int32)).toInt := Int32.lt_iff_toInt_lt.mp hc63
            have e1 : (0 : Int32).toInt = 0 := rfl
            have r2 := rng32 y
            have e3 : (65536 : Int32).toInt = 65536 := rfl
            have e4 : (256 : Int32).toInt = 256 := rfl
            have e5 : ((((y).toUInt32 >>> ((8 : Int32) &&& 31).toUInt32).toInt32)).toInt = ((y).toInt % 4294967296) / 256 := c_iushr y (8 : Int32) 8 (by decide) (by decide)
            have e6 : (16 : Int32).toInt = 16 := rfl
            have e7 : (((((((y).toUInt32 >>> ((8 : Int32) &&& 31).toUInt32).toInt32)).toUInt32 >>> ((4 : Int32) &&& 31).toUInt32).toInt32)).toInt = (((((y).toUInt32 >>> ((8 : Int32) &&& 31).toUInt32).toInt32)).toInt % 4294967296) / 16 := c_iushr (((y).toUInt32 >>> ((8 : Int32) &&& 31).toUInt32).toInt32) (4 : Int32) 4 (by decide) (by decide)
            have e8 : (4 : Int32).toInt = 4 := rfl
            have e10 : (19 : Int32).toInt = 19 := rfl
            have e11 : ((((((((((y).toUInt32 >>> ((8 : Int32) &&& 31).toUInt32).toInt32)).toUInt32 >>> ((4 : Int32) &&& 31).toUInt32).toInt32)).toUInt32 >>> ((1 : Int32) &&& 31).toUInt32).toInt32)).toInt = ((((((((y).toUInt32 >>> ((8 : Int32) &&& 31).toUInt32).toInt32)).toUInt32 >>> ((4 : Int32) &&& 31).toUInt32).toInt32)).toInt % 4294967296) / 2 := c_iushr ((((((y).toUInt32 >>> ((8 : Int32) &&& 31).toUInt32).toInt32)).toUInt32 >>> ((4 : Int32) &&& 31).toUInt32).toInt32) (1 : Int32) 1 (by decide) (by decide)
            have e9 := c_isub (19 : Int32) (((((((((y).toUInt32 >>> ((8 : Int32) &&& 31).toUInt32).toInt32)).toUInt32 >>> ((4 : Int32) &&& 31).toUInt32).toInt32)).toUInt32 >>> ((1 : Int32) &&& 31).toUInt32).toInt32)
            have r9 := rng32 ((19 : Int32) - (((((((((y).toUInt32 >>> ((8 : Int32) &&& 31).toUInt32).toInt32)).toUInt32 >>> ((4 : Int32) &&& 31).toUInt32).toInt32)).toUInt32 >>> ((1 : Int32) &&& 31).toUInt32).toInt32))
            refine ⟨by rw [E], rfl, ?_⟩
            rw [E]
            refine ⟨by omega, by omega, fun _ => by omega⟩
          · refine g_iinc cx d9_66 rfl (v := (-2 : Int32)) rfl (Ls' := #[.val (.int ((((((y).toUInt32 >>> ((8 : Int32) &&& 31).toUInt32).toInt32)).toUInt32 >>> ((4 : Int32) &&& 31).toUInt32).toInt32)), .val (.int (17 : Int32))]) rfl ?_
            refine g_iloadN cx d9_69 rfl ?_
            refine g_iconst cx d9_70 (v := (2 : Int32)) rfl ?_
            refine g_iushr cx d9_71 ?_
            refine g_istoreN cx d9_72 (Ls' := #[.val (.int (((((((((y).toUInt32 >>> ((8 : Int32) &&& 31).toUInt32).toInt32)).toUInt32 >>> ((4 : Int32) &&& 31).toUInt32).toInt32)).toUInt32 >>> ((2 : Int32) &&& 31).toUInt32).toInt32)), .val (.int (17 : Int32))]) rfl ?_
            refine g_iloadN cx d9_73 rfl ?_
            refine g_iloadN cx d9_74 rfl ?_
            refine g_iconst cx d9_75 (v := (1 : Int32)) rfl ?_
            refine g_iushr cx d9_76 ?_
            refine g_isub cx d9_77 ?_
            refine g_retI cx d9_78 rfl (by decide) (by decide) ?_
            have E : own_nlz y = ((17 : Int32) - ((((((((((((y).toUInt32 >>> ((8 : Int32) &&& 31).toUInt32).toInt32)).toUInt32 >>> ((4 : Int32) &&& 31).toUInt32).toInt32)).toUInt32 >>> ((2 : Int32) &&& 31).toUInt32).toInt32)).toUInt32 >>> ((1 : Int32) &&& 31).toUInt32).toInt32)) := by
              unfold own_nlz
              rw [if_pos hc1]
              unfold own_n5
              rw [if_pos hc22]
              unfold own_n4
              rw [if_neg hc37]
              unfold own_n3
              rw [if_neg hc51]
              unfold own_n2
              rw [if_neg hc63]
              rfl
            have i_hc1 : ((0 : Int32)).toInt < (y).toInt := Int32.lt_iff_toInt_lt.mp hc1
            have i_hc22 : (y).toInt < ((65536 : Int32)).toInt := Int32.lt_iff_toInt_lt.mp hc22
            have i_hc37 : ¬ (y).toInt < ((256 : Int32)).toInt := fun z => hc37 (Int32.lt_iff_toInt_lt.mpr z)
            have i_hc51 : ¬ ((((y).toUInt32 >>> ((8 : Int32) &&& 31).toUInt32).toInt32)).toInt < ((16 : Int32)).toInt := fun z => hc51 (Int32.lt_iff_toInt_lt.mpr z)
            have i_hc63 : ¬ (((((((y).toUInt32 >>> ((8 : Int32) &&& 31).toUInt32).toInt32)).toUInt32 >>> ((4 : Int32) &&& 31).toUInt32).toInt32)).toInt < ((4 : Int32)).toInt := fun z => hc63 (Int32.lt_iff_toInt_lt.mpr z)
            have e1 : (0 : Int32).toInt = 0 := rfl
            have r2 := rng32 y
            have e3 : (65536 : Int32).toInt = 65536 := rfl
            have e4 : (256 : Int32).toInt = 256 := rfl
            have e5 : ((((y).toUInt32 >>> ((8 : Int32) &&& 31).toUInt32).toInt32)).toInt = ((y).toInt % 4294967296) / 256 := c_iushr y (8 : Int32) 8 (by decide) (by decide)
            have e6 : (16 : Int32).toInt = 16 := rfl
            have e7 : (((((((y).toUInt32 >>> ((8 : Int32) &&& 31).toUInt32).toInt32)).toUInt32 >>> ((4 : Int32) &&& 31).toUInt32).toInt32)).toInt = (((((y).toUInt32 >>> ((8 : Int32) &&& 31).toUInt32).toInt32)).toInt % 4294967296) / 16 := c_iushr (((y).toUInt32 >>> ((8 : Int32) &&& 31).toUInt32).toInt32) (4 : Int32) 4 (by decide) (by decide)
            have e8 : (4 : Int32).toInt = 4 := rfl
            have e10 : (17 : Int32).toInt = 17 := rfl
            have e12 : ((((((((((y).toUInt32 >>> ((8 : Int32) &&& 31).toUInt32).toInt32)).toUInt32 >>> ((4 : Int32) &&& 31).toUInt32).toInt32)).toUInt32 >>> ((2 : Int32) &&& 31).toUInt32).toInt32)).toInt = ((((((((y).toUInt32 >>> ((8 : Int32) &&& 31).toUInt32).toInt32)).toUInt32 >>> ((4 : Int32) &&& 31).toUInt32).toInt32)).toInt % 4294967296) / 4 := c_iushr ((((((y).toUInt32 >>> ((8 : Int32) &&& 31).toUInt32).toInt32)).toUInt32 >>> ((4 : Int32) &&& 31).toUInt32).toInt32) (2 : Int32) 2 (by decide) (by decide)
            have e11 : (((((((((((((y).toUInt32 >>> ((8 : Int32) &&& 31).toUInt32).toInt32)).toUInt32 >>> ((4 : Int32) &&& 31).toUInt32).toInt32)).toUInt32 >>> ((2 : Int32) &&& 31).toUInt32).toInt32)).toUInt32 >>> ((1 : Int32) &&& 31).toUInt32).toInt32)).toInt = (((((((((((y).toUInt32 >>> ((8 : Int32) &&& 31).toUInt32).toInt32)).toUInt32 >>> ((4 : Int32) &&& 31).toUInt32).toInt32)).toUInt32 >>> ((2 : Int32) &&& 31).toUInt32).toInt32)).toInt % 4294967296) / 2 := c_iushr (((((((((y).toUInt32 >>> ((8 : Int32) &&& 31).toUInt32).toInt32)).toUInt32 >>> ((4 : Int32) &&& 31).toUInt32).toInt32)).toUInt32 >>> ((2 : Int32) &&& 31).toUInt32).toInt32) (1 : Int32) 1 (by decide) (by decide)
            have e9 := c_isub (17 : Int32) ((((((((((((y).toUInt32 >>> ((8 : Int32) &&& 31).toUInt32).toInt32)).toUInt32 >>> ((4 : Int32) &&& 31).toUInt32).toInt32)).toUInt32 >>> ((2 : Int32) &&& 31).toUInt32).toInt32)).toUInt32 >>> ((1 : Int32) &&& 31).toUInt32).toInt32)
            have r9 := rng32 ((17 : Int32) - ((((((((((((y).toUInt32 >>> ((8 : Int32) &&& 31).toUInt32).toInt32)).toUInt32 >>> ((4 : Int32) &&& 31).toUInt32).toInt32)).toUInt32 >>> ((2 : Int32) &&& 31).toUInt32).toInt32)).toUInt32 >>> ((1 : Int32) &&& 31).toUInt32).toInt32))
            refine ⟨by rw [E], rfl, ?_⟩
            rw [E]
            refine ⟨by omega, by omega, fun _ => by omega⟩
    · refine g_iinc cx d9_25 rfl (v := (-16 : Int32)) rfl (Ls' := #[.val (.int y), .val (.int (15 : Int32))]) rfl ?_
      refine g_iloadN cx d9_28 rfl ?_
      refine g_bipush cx d9_29 (v := (16 : Int32)) rfl ?_
      refine g_iushr cx d9_31 ?_
      refine g_istoreN cx d9_32 (Ls' := #[.val (.int (((y).toUInt32 >>> ((16 : Int32) &&& 31).toUInt32).toInt32)), .val (.int (15 : Int32))]) rfl ?_
      refine g_iloadN cx d9_33 rfl ?_
      refine g_sipush cx d9_34 (v := (256 : Int32)) rfl ?_
      refine g_icmp_lt cx d9_37 (fun hc37 => ?_) (fun hc37 => ?_)
      · refine g_iloadN cx d9_48 rfl ?_
        refine g_bipush cx d9_49 (v := (16 : Int32)) rfl ?_
        refine g_icmp_lt cx d9_51 (fun hc51 => ?_) (fun hc51 => ?_)
        · refine g_iloadN cx d9_61 rfl ?_
          refine g_iconst cx d9_62 (v := (4 : Int32)) rfl ?_
          refine g_icmp_lt cx d9_63 (fun hc63 => ?_) (fun hc63 => ?_)
          · refine g_iloadN cx d9_73 rfl ?_
            refine g_iloadN cx d9_74 rfl ?_
            refine g_iconst cx d9_75 (v := (1 : Int32)) rfl ?_
            refine g_iushr cx d9_76 ?_
            refine g_isub cx d9_77 ?_
            refine g_retI cx d9_78 rfl (by decide) (by decide) ?_
            have E : own_nlz y = ((15 : Int32) - ((((((y).toUInt32 >>> ((16 : Int32) &&& 31).toUInt32).toInt32)).toUInt32 >>> ((1 : Int32) &&& 31).toUInt32).toInt32)) := by
              unfold own_nlz
              rw [if_pos hc1]
              unfold own_n5
              rw [if_neg hc22]
              unfold own_n4
              rw [if_pos hc37]
              unfold own_n3
              rw [if_pos hc51]
              unfold own_n2
              rw [if_pos hc63]
              rfl
            have i_hc1 : ((0 : Int32)).toInt < (y).toInt := Int32.lt_iff_toInt_lt.mp hc1
            have i_hc22 : ¬ (y).toInt < ((65536 : Int32)).toInt := fun z => hc22 (Int32.lt_iff_toInt_lt.mpr z)
            have i_hc37 : ((((y).toUInt32 >>> ((16 : Int32) &&& 31).toUInt32).toInt32)).toInt < ((256 : Int32)).toInt := Int32.lt_iff_toInt_lt.mp hc37
            have i_hc51 : ((((y).toUInt32 >>> ((16 : Int32) &&& 31).toUInt32).toInt32)).toInt < ((16 : Int32)).toInt := Int32.lt_iff_toInt_lt.mp hc51
            have i_hc63 : ((((y).toUInt32 >>> ((16 : Int32) &&& 31).toUInt32).toInt32)).toInt < ((4 : Int32)).toInt := Int32.lt_iff_toInt_lt.mp hc63
            have e1 : (0 : Int32).toInt = 0 := rfl
            have r2 := rng32 y
            have e3 : (65536 : Int32).toInt = 65536 := rfl
            have e4 : ((((y).toUInt32 >>> ((16 : Int32) &&& 31).toUInt32).toInt32)).toInt = ((y).toInt % 4294967296) / 65536 := c_iushr y (16 : Int32) 16 (by decide) (by decide)
            have e5 : (256 : Int32).toInt = 256 := rfl
            have e6 : (16 : Int32).toInt = 16 := rfl
            have e7 : (4 : Int32).toInt = 4 := rfl
            have e9 : (15 : Int32).toInt = 15 := rfl
            have e10 : (((((((y).toUInt32 >>> ((16 : Int32) &&& 31).toUInt32).toInt32)).toUInt32 >>> ((1 : Int32) &&& 31).toUInt32).toInt32)).toInt = (((((y).toUInt32 >>> ((16 : Int32) &&& 31).toUInt32).toInt32)).toInt % 4294967296) / 2 := c_iushr (((y).toUInt32 >>> ((16 : Int32) &&& 31).toUInt32).toInt32) (1 : Int32) 1 (by decide) (by decide)
            have e8 := c_isub (15 : Int32) ((((((y).toUInt32 >>> ((16 : Int32) &&& 31).toUInt32).toInt32)).toUInt32 >>> ((1 : Int32) &&& 31).toUInt32).toInt32)
            have r8 := rng32 ((15 : Int32) - ((((((y).toUInt32 >>> ((16 : Int32) &&& 31).toUInt32).toInt32)).toUInt32 >>> ((1 : Int32) &&& 31).toUInt32).toInt32))
            refine ⟨by rw [E], rfl, ?_⟩
            rw [E]
            refine ⟨by omega, by omega, fun _ => by omega⟩
          · refine g_iinc cx d9_66 rfl (v := (-2 : Int32)) rfl (Ls' := #[.val (.int (((y).toUInt32 >>> ((16 : Int32) &&& 31).toUInt32).toInt32)), .val (.int (13 : Int32))]) rfl ?_
            refine g_iloadN cx d9_69 rfl ?_
            refine g_iconst cx d9_70 (v := (2 : Int32)) rfl ?_
            refine g_iushr cx d9_71 ?_
            refine g_istoreN cx d9_72 (Ls' := #[.val (.int ((((((y).toUInt32 >>> ((16 : Int32) &&& 31).toUInt32).toInt32)).toUInt32 >>> ((2 : Int32) &&& 31).toUInt32).toInt32)), .val (.int (13 : Int32))]) rfl ?_
            refine g_iloadN cx d9_73 rfl ?_
            refine g_iloadN cx d9_74 rfl ?_
            refine g_iconst cx d9_75 (v := (1 : Int32)) rfl ?_
            refine g_iushr cx d9_76 ?_
            refine g_isub cx d9_77 ?_
            refine g_retI cx d9_78 rfl (by decide) (by decide) ?_
            have E : own_nlz y = ((13 : Int32) - (((((((((y).toUInt32 >>> ((16 : Int32) &&& 31).toUInt32).toInt32)).toUInt32 >>> ((2 : Int32) &&& 31).toUInt32).toInt32)).toUInt32 >>> ((1 : Int32) &&& 31).toUInt32).toInt32)) := by
              unfold own_nlz
              rw [if_pos hc1]
              unfold own_n5
              rw [if_neg hc22]
              unfold own_n4
              rw [if_pos hc37]
              unfold own_n3
              rw [if_pos hc51]
              unfold own_n2
              rw [if_neg hc63]
              rfl
            have i_hc1 : ((0 : Int32)).toInt < (y).toInt := Int32.lt_iff_toInt_lt.mp hc1
            have i_hc22 : ¬ (y).toInt < ((65536 : Int32)).toInt := fun z => hc22 (Int32.lt_iff_toInt_lt.mpr z)
            have i_hc37 : ((((y).toUInt32 >>> ((16 : Int32) &&& 31).toUInt32).toInt32)).toInt < ((256 : Int32)).toInt := Int32.lt_iff_toInt_lt.mp hc37
            have i_hc51 : ((((y).toUInt32 >>> ((16 : Int32) &&& 31).toUInt32).toInt32)).toInt < ((16 : Int32)).toInt := Int32.lt_iff_toInt_lt.mp hc51
            have i_hc63 : ¬ ((((y).toUInt32 >>> ((16 : Int32) &&& 31).toUInt32).toInt32)).toInt < ((4 : Int32)).toInt := fun z => hc63 (Int32.lt_iff_toInt_lt.mpr z)
            have e1 : (0 : Int32).toInt = 0 := rfl
            have r2 := rng32 y
            have e3 : (65536 : Int32).toInt = 65536 := rfl
            have e4 : ((((y).toUInt32 >>> ((16 : Int32) &&& 31).toUInt32).toInt32)).toInt = ((y).toInt % 4294967296) / 65536 := c_iushr y (16 : Int32) 16 (by decide) (by decide)
            have e5 : (256 : Int32).toInt = 256 := rfl
            have e6 : (16 : Int32).toInt = 16 := rfl
            have e7 : (4 : Int32).toInt = 4 := rfl
            have e9 : (13 : Int32).toInt = 13 := rfl
            have e11 : (((((((y).toUInt32 >>> ((16 : Int32) &&& 31).toUInt32).toInt32)).toUInt32 >>> ((2 : Int32) &&& 31).toUInt32).toInt32)).toInt = (((((y).toUInt32 >>> ((16 : Int32) &&& 31).toUInt32).toInt32)).toInt % 4294967296) / 4 := c_iushr (((y).toUInt32 >>> ((16 : Int32) &&& 31).toUInt32).toInt32) (2 : Int32) 2 (by decide) (by decide)
            have e10 : ((((((((((y).toUInt32 >>> ((16 : Int32) &&& 31).toUInt32).toInt32)).toUInt32 >>> ((2 : Int32) &&& 31).toUInt32).toInt32)).toUInt32 >>> ((1 : Int32) &&& 31).toUInt32).toInt32)).toInt = ((((((((y).toUInt32 >>> ((16 : Int32) &&& 31).toUInt32).toInt32)).toUInt32 >>> ((2 : Int32) &&& 31).toUInt32).toInt32)).toInt % 4294967296) / 2 := c_iushr ((((((y).toUInt32 >>> ((16 : Int32) &&& 31).toUInt32).toInt32)).toUInt32 >>> ((2 : Int32) &&& 31).toUInt32).toInt32) (1 : Int32) 1 (by decide) (by decide)
            have e8 := c_isub (13 : Int32) (((((((((y).toUInt32 >>> ((16 : Int32) &&& 31).toUInt32).toInt32)).toUInt32 >>> ((2 : Int32) &&& 31).toUInt32).toInt32)).toUInt32 >>> ((1 : Int32) &&& 31).toUInt32).toInt32)
            have r8 := rng32 ((13 : Int32) - (((((((((y).toUInt32 >>> ((16 : Int32) &&& 31).toUInt32).toInt32)).toUInt32 >>> ((2 : Int32) &&& 31).toUInt32).toInt32)).toUInt32 >>> ((1 : Int32) &&& 31).toUInt32).toInt32))
            refine ⟨by rw [E], rfl, ?_⟩
            rw [E]
            refine ⟨by omega, by omega, fun _ => by omega⟩
        · refine g_iinc cx d9_54 rfl (v := (-4 : Int32)) rfl (Ls' := #[.val (.int (((y).toUInt32 >>> ((16 : Int32) &&& 31).toUInt32).toInt32)), .val (.int (11 : Int32))]) rfl ?_
          refine g_iloadN cx d9_57 rfl ?_
          refine g_iconst cx d9_58 (v := (4 : Int32)) rfl ?_
          refine g_iushr cx d9_59 ?_
          refine g_istoreN cx d9_60 (Ls' := #[.val (.int ((((((y).toUInt32 >>> ((16 : Int32) &&& 31).toUInt32).toInt32)).toUInt32 >>> ((4 : Int32) &&& 31).toUInt32).toInt32)), .val (.int (11 : Int32))]) rfl ?_
          refine g_iloadN cx d9_61 rfl ?_
          refine g_iconst cx d9_62 (v := (4 : Int32)) rfl ?_
          refine g_icmp_lt cx d9_63 (fun hc63 => ?_) (fun hc63 => ?_)
          · refine g_iloadN cx d9_73 rfl ?_
            refine g_iloadN cx d9_74 rfl ?_
            refine g_iconst cx d9_75 (v := (1 : Int32)) rfl ?_
            refine g_iushr cx d9_76 ?_
            refine g_isub cx d9_77 ?_
            refine g_retI cx d9_78 rfl (by decide) (by decide) ?_
            have E : own_nlz y = ((11 : Int32) - (((((((((y).toUInt32 >>> ((16 : Int32) &&& 31).toUInt32).toInt32)).toUInt32 >>> ((4 : Int32) &&& 31).toUInt32).toInt32)).toUInt32 >>> ((1 : Int32) &&& 31).toUInt32).toInt32)) := by
              unfold own_nlz
              rw [if_pos hc1]
              unfold own_n5
              rw [if_neg hc22]
              unfold own_n4
              rw [if_pos hc37]
              unfold own_n3
              rw [if_neg hc51]
              unfold own_n2
              rw [if_pos hc63]
              rfl
            have i_hc1 : ((0 : Int32)).toInt < (y).toInt := Int32.lt_iff_toInt_lt.mp hc1
            have i_hc22 : ¬ (y).toInt < ((65536 : Int32)).toInt := fun z => hc22 (Int32.lt_iff_toInt_lt.mpr z)
            have i_hc37 : ((((y).toUInt32 >>> ((16 : Int32) &&& 31).toUInt32).toInt32)).toInt < ((256 : Int32)).toInt := Int32.lt_iff_toInt_lt.mp hc37
            have i_hc51 : ¬ ((((y).toUInt32 >>> ((16 : Int32) &&& 31).toUInt32).toInt32)).toInt < ((16 : Int32)).toInt := fun z => hc51 (Int32.lt_iff_toInt_lt.mpr z)
            have i_hc63 : (((((((y).toUInt32 >>> ((16 : Int32) &&& 31).toUInt32).toInt32)).toUInt32 >>> ((4 : Int32) &&& 31).toUInt32).toInt32)).toInt < ((4 : Int32)).toInt := Int32.lt_iff_toInt_lt.mp hc63
            have e1 : (0 : Int32).toInt = 0 := rfl
            have r2 := rng32 y
            have e3 : (65536 : Int32).toInt = 65536 := rfl
            have e4 : ((((y).toUInt32 >>> ((16 : Int32) &&& 31).toUInt32).toInt32)).toInt = ((y).toInt % 4294967296) / 65536 := c_iushr y (16 : Int32) 16 (by decide) (by decide)
            have e5 : (256 : Int32).toInt = 256 := rfl
            have e6 : (16 : Int32).toInt = 16 := rfl
            have e7 : (((((((y).toUInt32 >>> ((16 : Int32) &&& 31).toUInt32).toInt32)).toUInt32 >>> ((4 : Int32) &&& 31).toUInt32).toInt32)).toInt = (((((y).toUInt32 >>> ((16 : Int32) &&& 31).toUInt32).toInt32)).toInt % 4294967296) / 16 := c_iushr (((y).toUInt32 >>> ((16 : Int32) &&& 31).toUInt32).toInt32) (4 : Int32) 4 (by decide) (by decide)
            have e8 : (4 : Int32).toInt = 4 := rfl
            have e10 : (11 : Int32).toInt = 11 := rfl
            have e11 : ((((((((((y).toUInt32 >>> ((16 : Int32) &&& 31).toUInt32).toInt32)).toUInt32 >>> ((4 : Int32) &&& 31).toUInt32).toInt32)).toUInt32 >>> ((1 : Int32) &&& 31).toUInt32).toInt32)).toInt = ((((((((y).toUInt32 >>> ((16 : Int32) &&& 31).toUInt32).toInt32)).toUInt32 >>> ((4 : Int32) &&& 31).toUInt32).toInt32)).toInt % 4294967296) / 2 := c_iushr ((((((y).toUInt32 >>> ((16 : Int32) &&& 31).toUInt32).toInt32)).toUInt32 >>> ((4 : Int32) &&& 31).toUInt32).toInt32) (1 : Int32) 1 (by decide) (by decide)
            have e9 := c_isub (11 : Int32) (((((((((y).toUInt32 >>> ((16 : Int32) &&& 31).toUInt32).toInt32)).toUInt32 >>> ((4 : Int32) &&& 31).toUInt32).toInt32)).toUInt32 >>> ((1 : Int32) &&& 31).toUInt32).toInt32)
            have r9 := rng32 ((11 : Int32) - (((((((((y).toUInt32 >>> ((16 : Int32) &&& 31).toUInt32).toInt32)).toUInt32 >>> ((4 : Int32) &&& 31).toUInt32).toInt32)).toUInt32 >>> ((1 : Int32) &&& 31).toUInt32).toInt32))
            refine ⟨by rw [E], rfl, ?_⟩
            rw [E]
            refine ⟨by omega, by omega, fun _ => by omega⟩
          · refine g_iinc cx d9_66 rfl (v := (-2 : Int32)) rfl (Ls' := #[.val (.int ((((((y).toUInt32 >>> ((16 : Int32) &&& 31).toUInt32).toInt32)).toUInt32 >>> ((4 : Int32) &&& 31).toUInt32).toInt32)), .val (.int (9 : Int32))]) rfl ?_
            refine g_iloadN cx d9_69 rfl ?_
            refine g_iconst cx d9_70 (v := (2 : Int32)) rfl ?_
            refine g_iushr cx d9_71 ?_
            refine g_istoreN cx d9_72 (Ls' := #[.val (.int (((((((((y).toUInt32 >>> ((16 : Int32) &&& 31).toUInt32).toInt32)).toUInt32 >>> ((4 : Int32) &&& 31).toUInt32).toInt32)).toUInt32 >>> ((2 : Int32) &&& 31).toUInt32).toInt32)), .val (.int (9 : Int32))]) rfl ?_
            refine g_iloadN cx d9_73 rfl ?_
            refine g_iloadN cx d9_74 rfl ?_
            refine g_iconst cx d9_75 (v := (1 : Int32)) rfl ?_
            refine g_iushr cx d9_76 ?_
            refine g_isub cx d9_77 ?_
            refine g_retI cx d9_78 rfl (by decide) (by decide) ?_
            have E : own_nlz y = ((9 : Int32) - ((((((((((((y).toUInt32 >>> ((16 : Int32) &&& 31).toUInt32).toInt32)).toUInt32 >>> ((4 : Int32) &&& 31).toUInt32).toInt32)).toUInt32 >>> ((2 : Int32) &&& 31).toUInt32).toInt32)).toUInt32 >>> ((1 : Int32) &&& 31).toUInt32).toInt32)) := by
              unfold own_nlz
              rw [if_pos hc1]
              unfold own_n5
              rw [if_neg hc22]
              unfold own_n4
              rw [if_pos hc37]
              unfold own_n3
              rw [if_neg hc51]
              unfold own_n2
              rw [if_neg hc63]
              rfl
            have i_hc1 : ((0 : Int32)).toInt < (y).toInt := Int32.lt_iff_toInt_lt.mp hc1
            have i_hc22 : ¬ (y).toInt < ((65536 : Int32)).toInt := fun z => hc22 (Int32.lt_iff_toInt_lt.mpr z)
            have i_hc37 : ((((y).toUInt32 >>> ((16 : Int32) &&& 31).toUInt32).toInt32)).toInt < ((256 : Int32)).toInt := Int32.lt_iff_toInt_lt.mp hc37
            have i_hc51 : ¬ ((((y).toUInt32 >>> ((16 : Int32) &&& 31).toUInt32).toInt32)).toInt < ((16 : Int32)).toInt := fun z => hc51 (Int32.lt_iff_toInt_lt.mpr z)
            have i_hc63 : ¬ (((((((y).toUInt32 >>> ((16 : Int32) &&& 31).toUInt32).toInt32)).toUInt32 >>> ((4 : Int32) &&& 31).toUInt32).toInt32)).toInt < ((4 : Int32)).toInt := fun z => hc63 (Int32.lt_iff_toInt_lt.mpr z)
            have e1 : (0 : Int32).toInt = 0 := rfl
            have r2 := rng32 y
            have e3 : (65536 : Int32).toInt = 65536 := rfl
            have e4 : ((((y).toUInt32 >>> ((16 : Int32) &&& 31).toUInt32).toInt32)).toInt = ((y).toInt % 4294967296) / 65536 := c_iushr y (16 : Int32) 16 (by decide) (by decide)
            have e5 : (256 : Int32).toInt = 256 := rfl
            have e6 : (16 : Int32).toInt = 16 := rfl
            have e7 : (((((((y).toUInt32 >>> ((16 : Int32) &&& 31).toUInt32).toInt32)).toUInt32 >>> ((4 : Int32) &&& 31).toUInt32).toInt32)).toInt = (((((y).toUInt32 >>> ((16 : Int32) &&& 31).toUInt32).toInt32)).toInt % 4294967296) / 16 := c_iushr (((y).toUInt32 >>> ((16 : Int32) &&& 31).toUInt32).toInt32) (4 : Int32) 4 (by decide) (by decide)
            have e8 : (4 : Int32).toInt = 4 := rfl
            have e10 : (9 : Int32).toInt = 9 := rfl
            have e12 : ((((((((((y).toUInt32 >>> ((16 : Int32) &&& 31).toUInt32).toInt32)).toUInt32 >>> ((4 : Int32) &&& 31).toUInt32).toInt32)).toUInt32 >>> ((2 : Int32) &&& 31).toUInt32).toInt32)).toInt = ((((((((y).toUInt32 >>> ((16 : Int32) &&& 31).toUInt32).toInt32)).toUInt32 >>> ((4 : Int32) &&& 31).toUInt32).toInt32)).toInt % 4294967296) / 4 := c_iushr ((((((y).toUInt32 >>> ((16 : Int32) &&& 31).toUInt32).toInt32)).toUInt32 >>> ((4 : Int32) &&& 31).toUInt32).toInt32) (2 : Int32) 2 (by decide) (by decide)
            have e11 : (((((((((((((y).toUInt32 >>> ((16 : Int32) &&& 31).toUInt32).toInt32)).toUInt32 >>> ((4 : Int32) &&& 31).toUInt32).toInt32)).toUInt32 >>> ((2 : Int32) &&& 31).toUInt32).toInt32)).toUInt32 >>> ((1 : Int32) &&& 31).toUInt32).toInt32)).toInt = (((((((((((y).toUInt32 >>> ((16 : Int32) &&& 31).toUInt32).toInt32)).toUInt32 >>> ((4 : Int32) &&& 31).toUInt32).toInt32)).toUInt32 >>> ((2 : Int32) &&& 31).toUInt32).toInt32)).toInt % 4294967296) / 2 := c_iushr (((((((((y).toUInt32 >>> ((16 : Int32) &&& 31).toUInt32).toInt32)).toUInt32 >>> ((4 : Int32) &&& 31).toUInt32).toInt32)).toUInt32 >>> ((2 : Int32) &&& 31).toUInt32).toInt32) (1 : Int32) 1 (by decide) (by decide)
            have e9 := c_isub (9 : Int32) ((((((((((((y).toUInt32 >>> ((16 : Int32) &&& 31).toUInt32).toInt32)).toUInt32 >>> ((4 : Int32) &&& 31).toUInt32).toInt32)).toUInt32 >>> ((2 : Int32) &&& 31).toUInt32).toInt32)).toUInt32 >>> ((1 : Int32) &&& 31).toUInt32).toInt32)
            have r9 := rng32 ((9 : Int32) - ((((((((((((y).toUInt32 >>> ((16 : Int32) &&& 31).toUInt32).toInt32)).toUInt32 >>> ((4 : Int32) &&& 31).toUInt32).toInt32)).toUInt32 >>> ((2 : Int32) &&& 31).toUInt32).toInt32)).toUInt32 >>> ((1 : Int32) &&& 31).toUInt32).toInt32))
            refine ⟨by rw [E], rfl, ?_⟩
            rw [E]
            refine ⟨by omega, by omega, fun _ => by omega⟩
      · refine g_iinc cx d9_40 rfl (v := (-8 : Int32)) rfl (Ls' := #[.val (.int (((y).toUInt32 >>> ((16 : Int32) &&& 31).toUInt32).toInt32)), .val (.int (7 : Int32))]) rfl ?_
        refine g_iloadN cx d9_43 rfl ?_
        refine g_bipush cx d9_44 (v := (8 : Int32)) rfl ?_
        refine g_iushr cx d9_46 ?_
        refine g_istoreN cx d9_47 (Ls' := #[.val (.int ((((((y).toUInt32 >>> ((16 : Int32) &&& 31).toUInt32).toInt32)).toUInt32 >>> ((8 : Int32) &&& 31).toUInt32).toInt32)), .val (.int (7 : Int32))]) rfl ?_
        refine g_iloadN cx d9_48 rfl ?_
        refine g_bipush cx d9_49 (v := (16 : Int32)) rfl ?_
        refine g_icmp_lt cx d9_51 (fun hc51 => ?_) (fun hc51 => ?_)
        · refine g_iloadN cx d9_61 rfl ?_
          refine g_iconst cx d9_62 (v := (4 : Int32)) rfl ?_
          refine g_icmp_lt cx d9_63 (fun hc63 => ?_) (fun hc63 => ?_)
          · refine g_iloadN cx d9_73 rfl ?_
            refine g_iloadN cx d9_74 rfl ?_
            refine g_iconst cx d9_75 (v := (1 : Int32)) rfl ?_
            refine g_iushr cx d9_76 ?_
            refine g_isub cx d9_77 ?_
            refine g_retI cx d9_78 rfl (by decide) (by decide) ?_
            have E : own_nlz y = ((7 : Int32) - (((((((((y).toUInt32 >>> ((16 : Int32) &&& 31).toUInt32).toInt32)).toUInt32 >>> ((8 : Int32) &&& 31).toUInt32).toInt32)).toUInt32 >>> ((1 : Int32) &&& 31).toUInt32).toInt32)) := by
              unfold own_nlz
              rw [if_pos hc1]
              unfold own_n5
              rw [if_neg hc22]
              unfold own_n4
              rw [if_neg hc37]
              unfold own_n3
              rw [if_pos hc51]
              unfold own_n2
              rw [if_pos hc63]
              rfl
            have i_hc1 : ((0 : Int32)).toInt < (y).toInt := Int32.lt_iff_toInt_lt.mp hc1
            have i_hc22 : ¬ (y).toInt < ((65536 : Int32)).toInt := fun z => hc22 (Int32.lt_iff_toInt_lt.mpr z)
            have i_hc37 : ¬ ((((y).toUInt32 >>> ((16 : Int32) &&& 31).toUInt32).toInt32)).toInt < ((256 : Int32)).toInt := fun z => hc37 (Int32.lt_iff_toInt_lt.mpr z)
            have i_hc51 : (((((((y).toUInt32 >>> ((16 : Int32) &&& 31).toUInt32).toInt32)).toUInt32 >>> ((8 : Int32) &&& 31).toUInt32).toInt32)).toInt < ((16 : Int32)).toInt := Int32.lt_iff_toInt_lt.mp hc51
            have i_hc63 : (((((((y).toUInt32 >>> ((16 : Int32) &&& 31).toUInt32).toInt32)).toUInt32 >>> ((8 : Int32) &&& 31).toUInt32).toInt32)).toInt < ((4 : Int32)).toInt := Int32.lt_iff_toInt_lt.mp hc63
            have e1 : (0 : Int32).toInt = 0 := rfl
            have r2 := rng32 y
            have e3 : (65536 : Int32).toInt = 65536 := rfl
            have e4 : ((((y).toUInt32 >>> ((16 : Int32) &&& 31).toUInt32).toInt32)).toInt = ((y).toInt % 4294967296) / 65536 := c_iushr y (16 : Int32) 16 (by decide) (by decide)
            have e5 : (256 : Int32).toInt = 256 := rfl
            have e6 : (((((((y).toUInt32 >>> ((16 : Int32) &&& 31).toUInt32).toInt32)).toUInt32 >>> ((8 : Int32) &&& 31).toUInt32).toInt32)).toInt = (((((y).toUInt32 >>> ((16 : Int32) &&& 31).toUInt32).toInt32)).toInt % 4294967296) / 256 := c_iushr (((y).toUInt32 >>> ((16 : Int32) &&& 31).toUInt32).toInt32) (8 : Int32) 8 (by decide) (by decide)
            have e7 : (16 : Int32).toInt = 16 := rfl
            have e8 : (4 : Int32).toInt = 4 := rfl
            have e10 : (7 : Int32).toInt = 7 := rfl
            have e11 : ((((((((((y).toUInt32 >>> ((16 : Int32) &&& 31).toUInt32).toInt32)).toUInt32 >>> ((8 : Int32) &&& 31).toUInt32).toInt32)).toUInt32 >>> ((1 : Int32) &&& 31).toUInt32).toInt32)).toInt = ((((((((y).toUInt32 >>> ((16 : Int32) &&& 31).toUInt32).toInt32)).toUInt32 >>> ((8 : Int32) &&& 31).toUInt32).toInt32)).toInt % 4294967296) / 2 := c_iushr ((((((y).toUInt32 >>> ((16 : Int32) &&& 31).toUInt32).toInt32)).toUInt32 >>> ((8 : Int32) &&& 31).toUInt32).toInt32) (1 : Int32) 1 (by decide) (by decide)
            have e9 := c_isub (7 : Int32) (((((((((y).toUInt32 >>> ((16 : Int32) &&& 31).toUInt32).toInt32)).toUInt32 >>> ((8 : Int32) &&& 31).toUInt32).toInt32)).toUInt32 >>> ((1 : Int32) &&& 31).toUInt32).toInt32)
            have r9 := rng32 ((7 : Int32) - (((((((((y).toUInt32 >>> ((16 : Int32) &&& 31).toUInt32).toInt32)).toUInt32 >>> ((8 : Int32) &&& 31).toUInt32).toInt32)).toUInt32 >>> ((1 : Int32) &&& 31).toUInt32).toInt32))
            refine ⟨by rw [E], rfl, ?_⟩
            rw [E]
            refine ⟨by omega, by omega, fun _ => by omega⟩
          · refine g_iinc cx d9_66 rfl (v := (-2 : Int32)) rfl (Ls' := #[.val (.int ((((((y).toUInt32 >>> ((16 : Int32) &&& 31).toUInt32).toInt32)).toUInt32 >>> ((8 : Int32) &&& 31).toUInt32).toInt32)), .val (.int (5 : Int32))]) rfl ?_
            refine g_iloadN cx d9_69 rfl ?_
            refine g_iconst cx d9_70 (v := (2 : Int32)) rfl ?_
            refine g_iushr cx d9_71 ?_
            refine g_istoreN cx d9_72 (Ls' := #[.val (.int (((((((((y).toUInt32 >>> ((16 : Int32) &&& 31).toUInt32).toInt32)).toUInt32 >>> ((8 : Int32) &&& 31).toUInt32).toInt32)).toUInt32 >>> ((2 : Int32) &&& 31).toUInt32).toInt32)), .val (.int (5 : Int32))]) rfl ?_
            refine g_iloadN cx d9_73 rfl ?_
            refine g_iloadN cx d9_74 rfl ?_
            refine g_iconst cx d9_75 (v := (1 : Int32)) rfl ?_
            refine g_iushr cx d9_76 ?_
            refine g_isub cx d9_77 ?_
            refine g_retI cx d9_78 rfl (by decide) (by decide) ?_
            have E : own_nlz y = ((5 : Int32) - ((((((((((((y).toUInt32 >>> ((16 : Int32) &&& 31).toUInt32).toInt32)).toUInt32 >>> ((8 : Int32) &&& 31).toUInt32).toInt32)).toUInt32 >>> ((2 : Int32) &&& 31).toUInt32).toInt32)).toUInt32 >>> ((1 : Int32) &&& 31).toUInt32).toInt32)) := by
              unfold own_nlz
              rw [if_pos hc1]
              unfold own_n5
              rw [if_neg hc22]
              unfold own_n4
              rw [if_neg hc37]
              unfold own_n3
              rw [if_pos hc51]
              unfold own_n2
              rw [if_neg hc63]
              rfl
            have i_hc1 : ((0 : Int32)).toInt < (y).toInt := Int32.lt_iff_toInt_lt.mp hc1
            have i_hc22 : ¬ (y).toInt < ((65536 : Int32)).toInt := fun z => hc22 (Int32.lt_iff_toInt_lt.mpr z)
            have i_hc37 : ¬ ((((y).toUInt32 >>> ((16 : Int32) &&& 31).toUInt32).toInt32)).toInt < ((256 : Int32)).toInt := fun z => hc37 (Int32.lt_iff_toInt_lt.mpr z)
            have i_hc51 : (((((((y).toUInt32 >>> ((16 : Int32) &&& 31).toUInt32).toInt32)).toUInt32 >>> ((8 : Int32) &&& 31).toUInt32).toInt32)).toInt < ((16 : Int32)).toInt := Int32.lt_iff_toInt_lt.mp hc51
            have i_hc63 : ¬ (((((((y).toUInt32 >>> ((16 : Int32) &&& 31).toUInt32).toInt32)).toUInt32 >>> ((8 : Int32) &&& 31).toUInt32).toInt32)).toInt < ((4 : Int32)).toInt := fun z => hc63 (Int32.lt_iff_toInt_lt.mpr z)
            have e1 : (0 : Int32).toInt = 0 := rfl
            have r2 := rng32 y
            have e3 : (65536 : Int32).toInt = 65536 := rfl
            have e4 : ((((y).toUInt32 >>> ((16 : Int32) &&& 31).toUInt32).toInt32)).toInt = ((y).toInt % 4294967296) / 65536 := c_iushr y (16 : Int32) 16 (by decide) (by decide)
            have e5 : (256 : Int32).toInt = 256 := rfl
            have e6 : (((((((y).toUInt32 >>> ((16 : Int32) &&& 31).toUInt32).toInt32)).toUInt32 >>> ((8 : Int32) &&& 31).toUInt32).toInt32)).toInt = (((((y).toUInt32 >>> ((16 : Int32) &&& 31).toUInt32).toInt32)).toInt % 4294967296) / 256 := c_iushr (((y).toUInt32 >>> ((16 : Int32) &&& 31).toUInt32).toInt32) (8 : Int32) 8 (by decide) (by decide)
            have e7 : (16 : Int32).toInt = 16 := rfl
            have e8 : (4 : Int32).toInt = 4 := rfl
            have e10 : (5 : Int32).toInt = 5 := rfl
            have e12 : ((((((((((y).toUInt32 >>> ((16 : Int32) &&& 31).toUInt32).toInt32)).toUInt32 >>> ((8 : Int32) &&& 31).toUInt32).toInt32)).toUInt32 >>> ((2 : Int32) &&& 31).toUInt32).toInt32)).toInt = ((((((((y).toUInt32 >>> ((16 : Int32) &&& 31).toUInt32).toInt32)).toUInt32 >>> ((8 : Int32) &&& 31).toUInt32).toInt32)).toInt % 4294967296) / 4 := c_iushr ((((((y).toUInt32 >>> ((16 : Int32) &&& 31).toUInt32).toInt32)).toUInt32 >>> ((8 : Int32) &&& 31).toUInt32).toInt32) (2 : Int32) 2 (by decide) (by decide)
            have e11 : (((((((((((((y).toUInt32 >>> ((16 : Int32) &&& 31).toUInt32).toInt32)).toUInt32 >>> ((8 : Int32) &&& 31).toUInt32).toInt32)).toUInt32 >>> ((2 : Int32) &&& 31).toUInt32).toInt32)).toUInt32 >>> ((1 : Int32) &&& 31).toUInt32).toInt32)).toInt = (((((((((((y).toUInt32 >>> ((16 : Int32) &&& 31).toUInt32).toInt32)).toUInt32 >>> ((8 : Int32) &&& 31).toUInt32).toInt32)).toUInt32 >>> ((2 : Int32) &&& 31).toUInt32).toInt32)).toInt % 4294967296) / 2 := c_iushr (((((((((y).toUInt32 >>> ((16 : Int32) &&& 31).toUInt32).toInt32)).toUInt32 >>> ((8 : Int32) &&& 31).toUInt32).toInt32)).toUInt32 >>> ((2 : Int32) &&& 31).toUInt32).toInt32) (1 : Int32) 1 (by decide) (by decide)
            have e9 := c_isub (5 : Int32) ((((((((((((y).toUInt32 >>> ((16 : Int32) &&& 31).toUInt32).toInt32)).toUInt32 >>> ((8 : Int32) &&& 31).toUInt32).toInt32)).toUInt32 >>> ((2 : Int32) &&& 31).toUInt32).toInt32)).toUInt32 >>> ((1 : Int32) &&& 31).toUInt32).toInt32)
            have r9 := rng32 ((5 : Int32) - ((((((((((((y).toUInt32 >>> ((16 : Int32) &&& 31).toUInt32).toInt32)).toUInt32 >>> ((8 : Int32) &&& 31).toUInt32).toInt32)).toUInt32 >>> ((2 : Int32) &&& 31).toUInt32).toInt32)).toUInt32 >>> ((1 : Int32) &&& 31).toUInt32).toInt32))
            refine ⟨by rw [E], rfl, ?_⟩
            rw [E]
            refine ⟨by omega, by omega, fun _ => by omega⟩
        · refine g_iinc cx d9_54 rfl (v := (-4 : Int32)) rfl (Ls' := #[.val (.int ((((((y).toUInt32 >>> ((16 : Int32) &&& 31).toUInt32).toInt32)).toUInt32 >>> ((8 : Int32) &&& 31).toUInt32).toInt32)), .val (.int (3 : Int32))]) rfl ?_
          refine g_iloadN cx d9_57 rfl ?_
          refine g_iconst cx d9_58 (v := (4 : Int32)) rfl ?_
          refine g_iushr cx d9_59 ?_
          refine g_istoreN cx d9_60 (Ls' := #[.val (.int (((((((((y).toUInt32 >>> ((16 : Int32) &&& 31).toUInt32).toInt32)).toUInt32 >>> ((8 : Int32) &&& 31).toUInt32).toInt32)).toUInt32 >>> ((4 : Int32) &&& 31).toUInt32).toInt32)), .val (.int (3 : Int32))]) rfl ?_
          refine g_iloadN cx d9_61 rfl ?_
          refine g_iconst cx d9_62 (v := (4 : Int32)) rfl ?_
          refine g_icmp_lt cx d9_63 (fun hc63 => ?_) (fun hc63 => ?_)
          · refine g_iloadN cx d9_73 rfl ?_
            refine g_iloadN cx d9_74 rfl ?_
            refine g_iconst cx d9_75 (v := (1 : Int32)) rfl ?_
            refine g_iushr cx d9_76 ?_
            refine g_isub cx d9_77 ?_
            refine g_retI cx d9_78 rfl (by decide) (by decide) ?_
            have E : own_nlz y = ((3 : Int32) - ((((((((((((y).toUInt32 >>> ((16 : Int32) &&& 31).toUInt32).toInt32)).toUInt32 >>> ((8 : Int32) &&& 31).toUInt32).toInt32)).toUInt32 >>> ((4 : Int32) &&& 31).toUInt32).toInt32)).toUInt32 >>> ((1 : Int32) &&& 31).toUInt32).toInt32)) := by
              unfold own_nlz
              rw [if_pos hc1]
              unfold own_n5
              rw [if_neg hc22]
              unfold own_n4
              rw [if_neg hc37]
              unfold own_n3
              rw [if_neg hc51]
              unfold own_n2
              rw [if_pos hc63]
              rfl
            have i_hc1 : ((0 : Int32)).toInt < (y).toInt := Int32.lt_iff_toInt_lt.mp hc1
            have i_hc22 : ¬ (y).toInt < ((65536 : Int32)).toInt := fun z => hc22 (Int32.lt_iff_toInt_lt.mpr z)
            have i_hc37 : ¬ ((((y).toUInt32 >>> ((16 : Int32) &&& 31).toUInt32).toInt32)).toInt < ((256 : Int32)).toInt := fun z => hc37 (Int32.lt_iff_toInt_lt.mpr z)
            have i_hc51 : ¬ (((((((y).toUInt32 >>> ((16 : Int32) &&& 31).toUInt32).toInt32)).toUInt32 >>> ((8 : Int32) &&& 31).toUInt32).toInt32)).toInt < ((16 : Int32)).toInt := fun z => hc51 (Int32.lt_iff_toInt_lt.mpr z)
            have i_hc63 : ((((((((((y).toUInt32 >>> ((16 : Int32) &&& 31).toUInt32).toInt32)).toUInt32 >>> ((8 : Int32) &&& 31).toUInt32).toInt32)).toUInt32 >>> ((4 : Int32) &&& 31).toUInt32).toInt32)).toInt < ((4 : Int32)).toInt := Int32.lt_iff_toInt_lt.mp hc63
            have e1 : (0 : Int32).toInt = 0 := rfl
            have r2 := rng32 y
            have e3 : (65536 : Int32).toInt = 65536 := rfl
            have e4 : ((((y).toUInt32 >>> ((16 : Int32) &&& 31).toUInt32).toInt32)).toInt = ((y).toInt % 4294967296) / 65536 := c_iushr y (16 : Int32) 16 (by decide) (by decide)
            have e5 : (256 : Int32).toInt = 256 := rfl
            have e6 : (((((((y).toUInt32 >>> ((16 : Int32) &&& 31).toUInt32).toInt32)).toUInt32 >>> ((8 : Int32) &&& 31).toUInt32).toInt32)).toInt = (((((y).toUInt32 >>> ((16 : Int32) &&& 31).toUInt32).toInt32)).toInt % 4294967296) / 256 := c_iushr (((y).toUInt32 >>> ((16 : Int32) &&& 31).toUInt32).toInt32) (8 : Int32) 8 (by decide) (by decide)
            have e7 : (16 : Int32).toInt = 16 := rfl
            have e8 : ((((((((((y).toUInt32 >>> ((16 : Int32) &&& 31).toUInt32).toInt32)).toUInt32 >>> ((8 : Int32) &&& 31).toUInt32).toInt32)).toUInt32 >>> ((4 : Int32) &&& 31).toUInt32).toInt32)).toInt = ((((((((y).toUInt32 >>> ((16 : Int32) &&& 31).toUInt32).toInt32)).toUInt32 >>> ((8 : Int32) &&& 31).toUInt32).toInt32)).toInt % 4294967296) / 16 := c_iushr ((((((y).toUInt32 >>> ((16 : Int32) &&& 31).toUInt32).toInt32)).toUInt32 >>> ((8 : Int32) &&& 31).toUInt32).toInt32) (4 : Int32) 4 (by decide) (by decide)
            have e9 : (4 : Int32).toInt = 4 := rfl
            have e11 : (3 : Int32).toInt = 3 := rfl
            have e12 : (((((((((((((y).toUInt32 >>> ((16 : Int32) &&& 31).toUInt32).toInt32)).toUInt32 >>> ((8 : Int32) &&& 31).toUInt32).toInt32)).toUInt32 >>> ((4 : Int32) &&& 31).toUInt32).toInt32)).toUInt32 >>> ((1 : Int32) &&& 31).toUInt32).toInt32)).toInt = (((((((((((y).toUInt32 >>> ((16 : Int32) &&& 31).toUInt32).toInt32)).toUInt32 >>> ((8 : Int32) &&& 31).toUInt32).toInt32)).toUInt32 >>> ((4 : Int32) &&& 31).toUInt32).toInt32)).toInt % 4294967296) / 2 := c_iushr (((((((((y).toUInt32 >>> ((16 : Int32) &&& 31).toUInt32).toInt32)).toUInt32 >>> ((8 : Int32) &&& 31).toUInt32).toInt32)).toUInt32 >>> ((4 : Int32) &&& 31).toUInt32).toInt32) (1 : Int32) 1 (by decide) (by decide)
            have e10 := c_isub (3 : Int32) ((((((((((((y).toUInt32 >>> ((16 : Int32) &&& 31).toUInt32).toInt32)).toUInt32 >>> ((8 : Int32) &&& 31).toUInt32).toInt32)).toUInt32 >>> ((4 : Int32) &&& 31).toUInt32).toInt32)).toUInt32 >>> ((1 : Int32) &&& 31).toUInt32).toInt32)
            have r10 := rng32 ((3 : Int32) - ((((((((((((y).toUInt32 >>> ((16 : Int32) &&& 31).toUInt32).toInt32)).toUInt32 >>> ((8 : Int32) &&& 31).toUInt32).toInt32)).toUInt32 >>> ((4 : Int32) &&& 31).toUInt32).toInt32)).toUInt32 >>> ((1 : Int32) &&& 31).toUInt32).toInt32))
            refine ⟨by rw [E], rfl, ?_⟩
            rw [E]
            refine ⟨by omega, by omega, fun _ => by omega⟩
          · refine g_iinc cx d9_66 rfl (v := (-2 : Int32)) rfl (Ls' := #[.val (.int (((((((((y).toUInt32 >>> ((16 : Int32) &&& 31).toUInt32).toInt32)).toUInt32 >>> ((8 : Int32) &&& 31).toUInt32).toInt32)).toUInt32 >>> ((4 : Int32) &&& 31).toUInt32).toInt32)), .val (.int (1 : Int32))]) rfl ?_
            refine g_iloadN cx d9_69 rfl ?_
            refine g_iconst cx d9_70 (v := (2 : Int32)) rfl ?_
            refine g_iushr cx d9_71 ?_
            refine g_istoreN cx d9_72 (Ls' := #[.val (.int ((((((((((((y).toUInt32 >>> ((16 : Int32) &&& 31).toUInt32).toInt32)).toUInt32 >>> ((8 : Int32) &&& 31).toUInt32).toInt32)).toUInt32 >>> ((4 : Int32) &&& 31).toUInt32).toInt32)).toUInt32 >>> ((2 : Int32) &&& 31).toUInt32).toInt32)), .val (.int (1 : Int32))]) rfl ?_
            refine g_iloadN cx d9_73 rfl ?_
            refine g_iloadN cx d9_74 rfl ?_
            refine g_iconst cx d9_75 (v := (1 : Int32)) rfl ?_
            refine g_iushr cx d9_76 ?_
            refine g_isub cx d9_77 ?_
            refine g_retI cx d9_78 rfl (by decide) (by decide) ?_
            have E : own_nlz y = ((1 : Int32) - (((((((((((((((y).toUInt32 >>> ((16 : Int32) &&& 31).toUInt32).toInt32)).toUInt32 >>> ((8 : Int32) &&& 31).toUInt32).toInt32)).toUInt32 >>> ((4 : Int32) &&& 31).toUInt32).toInt32)).toUInt32 >>> ((2 : Int32) &&& 31).toUInt32).toInt32)).toUInt32 >>> ((1 : Int32) &&& 31).toUInt32).toInt32)) := by
              unfold own_nlz
              rw [if_pos hc1]
              unfold own_n5
              rw [if_neg hc22]
              unfold own_n4
              rw [if_neg hc37]
              unfold own_n3
              rw [if_neg hc51]
              unfold own_n2
              rw [if_neg hc63]
              rfl
            have i_hc1 : ((0 : Int32)).toInt < (y).toInt := Int32.lt_iff_toInt_lt.mp hc1
            have i_hc22 : ¬ (y).toInt < ((65536 : Int32)).toInt := fun z => hc22 (Int32.lt_iff_toInt_lt.mpr z)
            have i_hc37 : ¬ ((((y).toUInt32 >>> ((16 : Int32) &&& 31).toUInt32).toInt32)).toInt < ((256 : Int32)).toInt := fun z => hc37 (Int32.lt_iff_toInt_lt.mpr z)
            have i_hc51 : ¬ (((((((y).toUInt32 >>> ((16 : Int32) &&& 31).toUInt32).toInt32)).toUInt32 >>> ((8 : Int32) &&& 31).toUInt32).toInt32)).toInt < ((16 : Int32)).toInt := fun z => hc51 (Int32.lt_iff_toInt_lt.mpr z)
            have i_hc63 : ¬ ((((((((((y).toUInt32 >>> ((16 : Int32) &&& 31).toUInt32).toInt32)).toUInt32 >>> ((8 : Int32) &&& 31).toUInt32).toInt32)).toUInt32 >>> ((4 : Int32) &&& 31).toUInt32).toInt32)).toInt < ((4 : Int32)).toInt := fun z => hc63 (Int32.lt_iff_toInt_lt.mpr z)
            have e1 : (0 : Int32).toInt = 0 := rfl
            have r2 := rng32 y
            have e3 : (65536 : Int32).toInt = 65536 := rfl
            have e4 : ((((y).toUInt32 >>> ((16 : Int32) &&& 31).toUInt32).toInt32)).toInt = ((y).toInt % 4294967296) / 65536 := c_iushr y (16 : Int32) 16 (by decide) (by decide)
            have e5 : (256 : Int32).toInt = 256 := rfl
            have e6 : (((((((y).toUInt32 >>> ((16 : Int32) &&& 31).toUInt32).toInt32)).toUInt32 >>> ((8 : Int32) &&& 31).toUInt32).toInt32)).toInt = (((((y).toUInt32 >>> ((16 : Int32) &&& 31).toUInt32).toInt32)).toInt % 4294967296) / 256 := c_iushr (((y).toUInt32 >>> ((16 : Int32) &&& 31).toUInt32).toInt32) (8 : Int32) 8 (by decide) (by decide)
            have e7 : (16 : Int32).toInt = 16 := rfl
            have e8 : ((((((((((y).toUInt32 >>> ((16 : Int32) &&& 31).toUInt32).toInt32)).toUInt32 >>> ((8 : Int32) &&& 31).toUInt32).toInt32)).toUInt32 >>> ((4 : Int32) &&& 31).toUInt32).toInt32)).toInt = ((((((((y).toUInt32 >>> ((16 : Int32) &&& 31).toUInt32).toInt32)).toUInt32 >>> ((8 : Int32) &&& 31).toUInt32).toInt32)).toInt % 4294967296) / 16 := c_iushr ((((((y).toUInt32 >>> ((16 : Int32) &&& 31).toUInt32).toInt32)).toUInt32 >>> ((8 : Int32) &&& 31).toUInt32).toInt32) (4 : Int32) 4 (by decide) (by decide)
            have e9 : (4 : Int32).toInt = 4 := rfl
            have e11 : (1 : Int32).toInt = 1 := rfl
            have e13 : (((((((((((((y).toUInt32 >>> ((16 : Int32) &&& 31).toUInt32).toInt32)).toUInt32 >>> ((8 : Int32) &&& 31).toUInt32).toInt32)).toUInt32 >>> ((4 : Int32) &&& 31).toUInt32).toInt32)).toUInt32 >>> ((2 : Int32) &&& 31).toUInt32).toInt32)).toInt = (((((((((((y).toUInt32 >>> ((16 : Int32) &&& 31).toUInt32).toInt32)).toUInt32 >>> ((8 : Int32) &&& 31).toUInt32).toInt32)).toUInt32 >>> ((4 : Int32) &&& 31).toUInt32).toInt32)).toInt % 4294967296) / 4 := c_iushr (((((((((y).toUInt32 >>> ((16 : Int32) &&& 31).toUInt32).toInt32)).toUInt32 >>> ((8 : Int32) &&& 31).toUInt32).toInt32)).toUInt32 >>> ((4 : Int32) &&& 31).toUInt32).toInt32) (2 : Int32) 2 (by decide) (by decide)
            have e12 : ((((((((((((((((y).toUInt32 >>> ((16 : Int32) &&& 31).toUInt32).toInt32)).toUInt32 >>> ((8 : Int32) &&& 31).toUInt32).toInt32)).toUInt32 >>> ((4 : Int32) &&& 31).toUInt32).toInt32)).toUInt32 >>> ((2 : Int32) &&& 31).toUInt32).toInt32)).toUInt32 >>> ((1 : Int32) &&& 31).toUInt32).toInt32)).toInt = ((((((((((((((y).toUInt32 >>> ((16 : Int32) &&& 31).toUInt32).toInt32)).toUInt32 >>> ((8 : Int32) &&& 31).toUInt32).toInt32)).toUInt32 >>> ((4 : Int32) &&& 31).toUInt32).toInt32)).toUInt32 >>> ((2 : Int32) &&& 31).toUInt32).toInt32)).toInt % 4294967296) / 2 := c_iushr ((((((((((((y).toUInt32 >>> ((16 : Int32) &&& 31).toUInt32).toInt32)).toUInt32 >>> ((8 : Int32) &&& 31).toUInt32).toInt32)).toUInt32 >>> ((4 : Int32) &&& 31).toUInt32).toInt32)).toUInt32 >>> ((2 : Int32) &&& 31).toUInt32).toInt32) (1 : Int32) 1 (by decide) (by decide)
            have e10 := c_isub (1 : Int32) (((((((((((((((y).toUInt32 >>> ((16 : Int32) &&& 31).toUInt32).toInt32)).toUInt32 >>> ((8 : Int32) &&& 31).toUInt32).toInt32)).toUInt32 >>> ((4 : Int32) &&& 31).toUInt32).toInt32)).toUInt32 >>> ((2 : Int32) &&& 31).toUInt32).toInt32)).toUInt32 >>> ((1 : Int32) &&& 31).toUInt32).toInt32)
            have r10 := rng32 ((1 : Int32) - (((((((((((((((y).toUInt32 >>> ((16 : Int32) &&& 31).toUInt32).toInt32)).toUInt32 >>> ((8 : Int32) &&& 31).toUInt32).toInt32)).toUInt32 >>> ((4 : Int32) &&& 31).toUInt32).toInt32)).toUInt32 >>> ((2 : Int32) &&& 31).toUInt32).toInt32)).toUInt32 >>> ((1 : Int32) &&& 31).toUInt32).toInt32))
            refine ⟨by rw [E], rfl, ?_⟩
            rw [E]
            refine ⟨by omega, by omega, fun _ => by omega⟩
  · refine g_iloadN cx d9_4 rfl ?_
    refine g_if_ne cx d9_5 (fun hc5 => ?_) (fun hc5 => ?_)
    · refine g_iconst cx d9_13 (v := (0 : Int32)) rfl ?_
      refine g_retI cx d9_14 rfl (by decide) (by decide) ?_
      have E : own_nlz y = (0 : Int32) := by
        unfold own_nlz
        rw [if_neg hc1, if_neg hc5]
      have i_hc1 : ¬ ((0 : Int32)).toInt < (y).toInt := fun z => hc1 (Int32.lt_iff_toInt_lt.mpr z)
      have i_hc5 : ¬ (y).toInt = ((0 : Int32)).toInt := fun z => hc5 (Int32.toInt_inj.mp z)
      have e1 : (0 : Int32).toInt = 0 := rfl
      have r2 := rng32 y
      refine ⟨by rw [E], rfl, ?_⟩
      rw [E]
      refine ⟨by omega, by omega, fun _ => by omega⟩
    · refine g_bipush cx d9_8 (v := (32 : Int32)) rfl ?_
      refine g_goto cx d9_10 ?_
      refine g_retI cx d9_14 rfl (by decide) (by decide) ?_
      have E : own_nlz y = (32 : Int32) := by
        unfold own_nlz
        rw [if_neg hc1, if_pos hc5]
      have i_hc1 : ¬ ((0 : Int32)).toInt < (y).toInt := fun z => hc1 (Int32.lt_iff_toInt_lt.mpr z)
      have i_hc5 : (y).toInt = ((0 : Int32)).toInt := congrArg Int32.toInt hc5
      have e1 : (0 : Int32).toInt = 0 := rfl
      have r2 := rng32 y
      have e3 : (32 : Int32).toInt = 32 := rfl
      refine ⟨by rw [E], rfl, ?_⟩
      rw [E]
      refine ⟨by omega, by omega, fun _ => by omega⟩
def own_Lz (y : Int64) : Int32 := if (((((y).toUInt64 >>> ((32 : Int32) &&& 0x3f).toInt64.toUInt64).toInt64)).toInt32) = (0 : Int32) then (32 : Int32) + own_nlz ((y).toInt32) else own_nlz (((((y).toUInt64 >>> ((32 : Int32) &&& 0x3f).toInt64.toUInt64).toInt64)).toInt32)
theorem d8_0 : Dc jdk_35_method_48_code 0 (.lload_n 0) 1 1 := ⟨by decide +kernel, rfl⟩
theorem d8_1 : Dc jdk_35_method_48_code 1 (.bipush 32) 2 3 := ⟨by decide +kernel, rfl⟩
theorem d8_3 : Dc jdk_35_method_48_code 3 (.lushr) 1 4 := ⟨by decide +kernel, rfl⟩
theorem d8_4 : Dc jdk_35_method_48_code 4 (.l2i) 1 5 := ⟨by decide +kernel, rfl⟩
theorem d8_5 : Dc jdk_35_method_48_code 5 (.istore_n 2) 1 6 := ⟨by decide +kernel, rfl⟩
theorem d8_6 : Dc jdk_35_method_48_code 6 (.iload_n 2) 1 7 := ⟨by decide +kernel, rfl⟩
theorem d8_7 : Bi jdk_35_method_48_code 7 (Instr.ifCond .ne) 21 10 := ⟨14, by decide +kernel, by decide, by decide, rfl⟩
theorem d8_21 : Dc jdk_35_method_48_code 21 (.iload_n 2) 1 22 := ⟨by decide +kernel, rfl⟩
theorem pd_0 : parseMethodDescriptor "(I)I" = some ⟨[.int], some .int⟩ := by decide +kernel
theorem d8_22 : Dc jdk_35_method_48_code 22 (.invokestatic 308) 3 25 := ⟨by decide +kernel, rfl⟩
theorem d8_25 : Dc jdk_35_method_48_code 25 (.ireturn) 1 26 := ⟨by decide +kernel, rfl⟩
theorem d8_10 : Dc jdk_35_method_48_code 10 (.bipush 32) 2 12 := ⟨by decide +kernel, rfl⟩
theorem d8_12 : Dc jdk_35_method_48_code 12 (.lload_n 0) 1 13 := ⟨by decide +kernel, rfl⟩
theorem d8_13 : Dc jdk_35_method_48_code 13 (.l2i) 1 14 := ⟨by decide +kernel, rfl⟩
theorem d8_14 : Dc jdk_35_method_48_code 14 (.invokestatic 308) 3 17 := ⟨by decide +kernel, rfl⟩
theorem d8_17 : Dc jdk_35_method_48_code 17 (.iadd) 1 18 := ⟨by decide +kernel, rfl⟩
theorem d8_18 : Bi jdk_35_method_48_code 18 (Instr.goto) 25 21 := ⟨7, by decide +kernel, by decide, by decide, rfl⟩
theorem pn_rmlz : plainName "java/lang/Long" = true := by first | (simp [plainName, overriddenIn]; done) | decide +kernel
set_option maxRecDepth 65536 in
set_option maxHeartbeats 40000000 in
theorem rmlz (l : Launch) (Z : State) (a0 : Array Value) (hw : ∀ d ∈ tables_1, d.before a0 Z = true) (y : Int64) (h0 : Heap) :
    Met l Z (⟨"java/lang/Long", "numberOfLeadingZeros", "(J)I"⟩ : MethodName) jdk_35_method_48_code 3 (some .int) ({ frames := 1, cells := 0, slots := 0, locals := 14 } : Room) #[(.long y)] h0 (fun r h' => r = some (.int (own_Lz y)) ∧ h0 = h' ∧ 0 ≤ (own_Lz y).toInt ∧ (own_Lz y).toInt ≤ 64 ∧ (0 ≤ y.toInt → 1 ≤ (own_Lz y).toInt)) := by
  refine met_of (Ls := #[.val (.long y), .second, .unset]) (plainFor_of_name pn_rmlz) (fun m => by first | (simp [entryFrame, mkF, argsToLocals, Value.category]; done) | rfl) (fun p e s m below meth c cx => ?_)
  refine g_lloadN cx d8_0 rfl ?_
  refine g_bipush cx d8_1 (v := (32 : Int32)) rfl ?_
  refine g_lushr cx d8_3 ?_
  refine g_l2i cx d8_4 ?_
  refine g_istoreN cx d8_5 (Ls' := #[.val (.long y), .second, .val (.int (((((y).toUInt64 >>> ((32 : Int32) &&& 0x3f).toInt64.toUInt64).toInt64)).toInt32))]) rfl ?_
  refine g_iloadN cx d8_6 rfl ?_
  refine g_if_ne cx d8_7 (fun hc7 => ?_) (fun hc7 => ?_)
  · refine g_iloadN cx d8_21 rfl ?_
    refine g_static cx (y := (⟨"java/lang/Integer", "numberOfLeadingZeros", "(I)I"⟩ : MethodName)) d8_22 (hw _ (List.mem_of_getElem? (i := 51) rfl)) (hw _ (List.mem_of_getElem? (i := 52) rfl)) (hw _ (List.mem_of_getElem? (i := 53) rfl)) (hw _ (List.mem_of_getElem? (i := 54) rfl)) (by decide) (bytes := jdk_33_method_47_code) (maxL' := 2) (M := (rmnz l Z a0 hw _ _)) rfl (lenOf pd_0 rfl) (by decide) (W := 0) (Nat.le_of_eq rfl) (by decide) (k' := 0) (n' := 0) rfl rfl (by decide) (by decide) (argsL := [(.int (((((y).toUInt64 >>> ((32 : Int32) &&& 0x3f).toInt64.toUInt64).toInt64)).toInt32))]) (rest := []) rfl (fun v3 h2 q4 => ?_)
    obtain ⟨rfl, rfl, hb1⟩ := q4
    refine G.cast (st' := [(.int (own_nlz (((((y).toUInt64 >>> ((32 : Int32) &&& 0x3f).toInt64.toUInt64).toInt64)).toInt32)))]) ?_ rfl
    refine g_retI cx d8_25 rfl (by decide) (by decide) ?_
    have E : own_Lz y = (own_nlz (((((y).toUInt64 >>> ((32 : Int32) &&& 0x3f).toInt64.toUInt64).toInt64)).toInt32)) := if_neg hc7
    have i_hc7 : ¬ ((((((y).toUInt64 >>> ((32 : Int32) &&& 0x3f).toInt64.toUInt64).toInt64)).toInt32)).toInt = ((0 : Int32)).toInt := fun z => hc7 (Int32.toInt_inj.mp z)
    have r3 := rng64 y
    have e2 : ((((y).toUInt64 >>> ((32 : Int32) &&& 0x3f).toInt64.toUInt64).toInt64)).toInt = ((y).toInt % 18446744073709551616) / 4294967296 := c_lushr y (32 : Int32) 32 (by decide) (by decide)
    have e1 := c_l2i (((y).toUInt64 >>> ((32 : Int32) &&& 0x3f).toInt64.toUInt64).toInt64)
    have r1 := rng32 (((((y).toUInt64 >>> ((32 : Int32) &&& 0x3f).toInt64.toUInt64).toInt64)).toInt32)
    have e4 : (0 : Int32).toInt = 0 := rfl
    have r5 := rng32 (own_nlz (((((y).toUInt64 >>> ((32 : Int32) &&& 0x3f).toInt64.toUInt64).toInt64)).toInt32))
    refine ⟨by rw [E], rfl, ?_⟩
    rw [E]
    refine ⟨by omega, by omega, fun _ => by omega⟩
  · refine g_bipush cx d8_10 (v := (32 : Int32)) rfl ?_
    refine g_lloadN cx d8_12 rfl ?_
    refine g_l2i cx d8_13 ?_
    refine g_static cx (y := (⟨"java/lang/Integer", "numberOfLeadingZeros", "(I)I"⟩ : MethodName)) d8_14 (hw _ (List.mem_of_getElem? (i := 51) rfl)) (hw _ (List.mem_of_getElem? (i := 52) rfl)) (hw _ (List.mem_of_getElem? (i := 53) rfl)) (hw _ (List.mem_of_getElem? (i := 54) rfl)) (by decide) (bytes := jdk_33_method_47_code) (maxL' := 2) (M := (rmnz l Z a0 hw _ _)) rfl (lenOf pd_0 rfl) (by decide) (W := 1) (Nat.le_of_eq rfl) (by decide) (k' := 0) (n' := 0) rfl rfl (by decide) (by decide) (argsL := [(.int ((y).toInt32))]) (rest := [(.int (32 : Int32))]) rfl (fun v7 h6 q8 => ?_)
    obtain ⟨rfl, rfl, hb5⟩ := q8
    refine G.cast (st' := [(.int (own_nlz ((y).toInt32))), (.int (32 : Int32))]) ?_ rfl
    refine g_iadd cx d8_17 ?_
    refine g_goto cx d8_18 ?_
    refine g_retI cx d8_25 rfl (by decide) (by decide) ?_
    have E : own_Lz y = ((32 : Int32) + (own_nlz ((y).toInt32))) := if_pos hc7
    have i_hc7 : ((((((y).toUInt64 >>> ((32 : Int32) &&& 0x3f).toInt64.toUInt64).toInt64)).toInt32)).toInt = ((0 : Int32)).toInt := congrArg Int32.toInt hc7
    have r3 := rng64 y
    have e2 : ((((y).toUInt64 >>> ((32 : Int32) &&& 0x3f).toInt64.toUInt64).toInt64)).toInt = ((y).toInt % 18446744073709551616) / 4294967296 := c_lushr y (32 : Int32) 32 (by decide) (by decide)
    have e1 := c_l2i (((y).toUInt64 >>> ((32 : Int32) &&& 0x3f).toInt64.toUInt64).toInt64)
    have r1 := rng32 (((((y).toUInt64 >>> ((32 : Int32) &&& 0x3f).toInt64.toUInt64).toInt64)).toInt32)
    have e4 : (0 : Int32).toInt = 0 := rfl
    have e6 : (32 : Int32).toInt = 32 := rfl
    have r7 := rng32 (own_nlz ((y).toInt32))
    have e5 := c_iadd (32 : Int32) (own_nlz ((y).toInt32))
    have r5 := rng32 ((32 : Int32) + (own_nlz ((y).toInt32)))
    have e8 := c_l2i y
    have r8 := rng32 ((y).toInt32)
    refine ⟨by rw [E], rfl, ?_⟩
    rw [E]
    refine ⟨by omega, by omega, fun _ => by omega⟩
def own_rg (y : Int64) : Int32 := own_mx (0 : Int32) ((58 : Int32) - own_Lz y)
def own_wb (r : Int32) : Int32 := own_mx (0 : Int32) (r - (1 : Int32))
theorem d7_0 : Dc prog_19_method_11_code 0 (.iconst 0) 1 1 := ⟨by decide +kernel, rfl⟩
theorem d7_1 : Dc prog_19_method_11_code 1 (.bipush 58) 2 3 := ⟨by decide +kernel, rfl⟩
theorem d7_3 : Dc prog_19_method_11_code 3 (.lload_n 0) 1 4 := ⟨by decide +kernel, rfl⟩
theorem pd_1 : parseMethodDescriptor "(J)I" = some ⟨[.long], some .int⟩ := by decide +kernel
theorem d7_4 : Dc prog_19_method_11_code 4 (.invokestatic 77) 3 7 := ⟨by decide +kernel, rfl⟩
theorem d7_7 : Dc prog_19_method_11_code 7 (.isub) 1 8 := ⟨by decide +kernel, rfl⟩
theorem pd_2 : parseMethodDescriptor "(II)I" = some ⟨[.int, .int], some .int⟩ := by decide +kernel
theorem d7_8 : Dc prog_19_method_11_code 8 (.invokestatic 80) 3 11 := ⟨by decide +kernel, rfl⟩
theorem d7_11 : Dc prog_19_method_11_code 11 (.ireturn) 1 12 := ⟨by decide +kernel, rfl⟩
theorem pn_rmrg : plainName "com/example/oswego/oswego/RunTimeHistogram" = true := by first | (simp [plainName, overriddenIn]; done) | decide +kernel
set_option maxRecDepth 65536 in
set_option maxHeartbeats 40000000 in
theorem rmrg (l : Launch) (Z : State) (a0 : Array Value) (hw : ∀ d ∈ tables_1, d.before a0 Z = true) (y : Int64) (hx : ¬ y < (0 : Int64)) (h0 : Heap) :
    Met l Z (⟨"com/example/oswego/oswego/RunTimeHistogram", "rangeOf", "(J)I"⟩ : MethodName) prog_19_method_11_code 2 (some .int) ({ frames := 2, cells := 0, slots := 0, locals := 30 } : Room) #[(.long y)] h0 (fun r h' => r = some (.int (own_rg y)) ∧ h0 = h' ∧ ¬ own_rg y < (0 : Int32) ∧ own_rg y < (58 : Int32)) := by
  refine met_of (Ls := #[.val (.long y), .second]) (plainFor_of_name pn_rmrg) (fun m => by first | (simp [entryFrame, mkF, argsToLocals, Value.category]; done) | rfl) (fun p e s m below meth c cx => ?_)
  refine g_iconst cx d7_0 (v := (0 : Int32)) rfl ?_
  refine g_bipush cx d7_1 (v := (58 : Int32)) rfl ?_
  refine g_lloadN cx d7_3 rfl ?_
  refine g_static cx (y := (⟨"java/lang/Long", "numberOfLeadingZeros", "(J)I"⟩ : MethodName)) d7_4 (hw _ (List.mem_of_getElem? (i := 47) rfl)) (hw _ (List.mem_of_getElem? (i := 48) rfl)) (hw _ (List.mem_of_getElem? (i := 49) rfl)) (hw _ (List.mem_of_getElem? (i := 50) rfl)) (by decide) (bytes := jdk_35_method_48_code) (maxL' := 3) (M := (rmlz l Z a0 hw _ _)) rfl (lenOf pd_1 rfl) (by decide) (W := 2) (Nat.le_of_eq rfl) (by decide) (k' := 0) (n' := 0) rfl rfl (by decide) (by decide) (argsL := [(.long y)]) (rest := [(.int (58 : Int32)), (.int (0 : Int32))]) rfl (fun v2 h1 q3 => ?_)
  obtain ⟨rfl, rfl, hb0⟩ := q3
  refine G.cast (st' := [(.int (own_Lz y)), (.int (58 : Int32)), (.int (0 : Int32))]) ?_ rfl
  refine g_isub cx d7_7 ?_
  refine g_static cx (y := (⟨"java/lang/Math", "max", "(II)I"⟩ : MethodName)) d7_8 (hw _ (List.mem_of_getElem? (i := 56) rfl)) (hw _ (List.mem_of_getElem? (i := 57) rfl)) (hw _ (List.mem_of_getElem? (i := 58) rfl)) (hw _ (List.mem_of_getElem? (i := 59) rfl)) (by decide) (bytes := jdk_29_method_65_code) (maxL' := 2) (M := (rmxi l Z a0 hw _ _ _)) rfl (lenOf pd_2 rfl) (by decide) (W := 0) (Nat.le_of_eq rfl) (by decide) (k' := 0) (n' := 0) rfl rfl (by decide) (by decide) (argsL := [(.int (0 : Int32)), (.int ((58 : Int32) - (own_Lz y)))]) (rest := []) rfl (fun v5 h4 q6 => ?_)
  obtain ⟨rfl, rfl⟩ := q6
  refine G.cast (st' := [(.int (own_mx (0 : Int32) ((58 : Int32) - (own_Lz y))))]) ?_ rfl
  refine g_retI cx d7_11 rfl (by decide) (by decide) ?_
  refine ⟨rfl, rfl, ?_⟩
  have i_hx : ¬ (y).toInt < ((0 : Int64)).toInt := fun z => hx (Int64.lt_iff_toInt_lt.mpr z)
  have r1 := rng64 y
  have e2 : (0 : Int64).toInt = 0 := rfl
  have e4 : (58 : Int32).toInt = 58 := rfl
  have r5 := rng32 (own_Lz y)
  have e3 := c_isub (58 : Int32) (own_Lz y)
  have r3 := rng32 ((58 : Int32) - (own_Lz y))
  have e6 : (0 : Int32).toInt = 0 := rfl
  have t0 := own_mx_t (0 : Int32) ((58 : Int32) - own_Lz y)
  simp only [Int32.lt_iff_toInt_lt]
  show ¬ (own_mx (0 : Int32) ((58 : Int32) - own_Lz y)).toInt < _ ∧ (own_mx (0 : Int32) ((58 : Int32) - own_Lz y)).toInt < _
  omega
theorem d12_0 : Dc prog_19_method_14_code 0 (.iconst 0) 1 1 := ⟨by decide +kernel, rfl⟩
theorem d12_1 : Dc prog_19_method_14_code 1 (.iload_n 0) 1 2 := ⟨by decide +kernel, rfl⟩
theorem d12_2 : Dc prog_19_method_14_code 2 (.iconst 1) 1 3 := ⟨by decide +kernel, rfl⟩
theorem d12_3 : Dc prog_19_method_14_code 3 (.isub) 1 4 := ⟨by decide +kernel, rfl⟩
theorem d12_4 : Dc prog_19_method_14_code 4 (.invokestatic 80) 3 7 := ⟨by decide +kernel, rfl⟩
theorem d12_7 : Dc prog_19_method_14_code 7 (.ireturn) 1 8 := ⟨by decide +kernel, rfl⟩
theorem pn_rmwb : plainName "com/example/oswego/oswego/RunTimeHistogram" = true := by first | (simp [plainName, overriddenIn]; done) | decide +kernel
set_option maxRecDepth 65536 in
set_option maxHeartbeats 40000000 in
theorem rmwb (l : Launch) (Z : State) (a0 : Array Value) (hw : ∀ d ∈ tables_1, d.before a0 Z = true) (r : Int32) (h0 : Heap) :
    Met l Z (⟨"com/example/oswego/oswego/RunTimeHistogram", "widthBits", "(I)I"⟩ : MethodName) prog_19_method_14_code 1 (some .int) ({ frames := 1, cells := 0, slots := 0, locals := 13 } : Room) #[(.int r)] h0 (fun v h' => v = some (.int (own_wb r)) ∧ h0 = h') := by
  refine met_of (Ls := #[.val (.int r)]) (plainFor_of_name pn_rmwb) (fun m => by first | (simp [entryFrame, mkF, argsToLocals, Value.category]; done) | rfl) (fun p e s m below meth c cx => ?_)
  refine g_iconst cx d12_0 (v := (0 : Int32)) rfl ?_
  refine g_iloadN cx d12_1 rfl ?_
  refine g_iconst cx d12_2 (v := (1 : Int32)) rfl ?_
  refine g_isub cx d12_3 ?_
  refine g_static cx (y := (⟨"java/lang/Math", "max", "(II)I"⟩ : MethodName)) d12_4 (hw _ (List.mem_of_getElem? (i := 56) rfl)) (hw _ (List.mem_of_getElem? (i := 57) rfl)) (hw _ (List.mem_of_getElem? (i := 58) rfl)) (hw _ (List.mem_of_getElem? (i := 59) rfl)) (by decide) (bytes := jdk_29_method_65_code) (maxL' := 2) (M := (rmxi l Z a0 hw _ _ _)) rfl (lenOf pd_2 rfl) (by decide) (W := 0) (Nat.le_of_eq rfl) (by decide) (k' := 0) (n' := 0) rfl rfl (by decide) (by decide) (argsL := [(.int (0 : Int32)), (.int (r - (1 : Int32)))]) (rest := []) rfl (fun v2 h1 q3 => ?_)
  obtain ⟨rfl, rfl⟩ := q3
  refine G.cast (st' := [(.int (own_mx (0 : Int32) (r - (1 : Int32))))]) ?_ rfl
  refine g_retI cx d12_7 rfl (by decide) (by decide) ?_
  exact ⟨rfl, rfl⟩
def own_sb (y : Int64) (r : Int32) : Int32 := ((((((y).toUInt64 >>> ((own_wb r) &&& 0x3f).toInt64.toUInt64).toInt64)).toInt32) &&& (63 : Int32))
theorem d11_0 : Dc prog_19_method_12_code 0 (.lload_n 0) 1 1 := ⟨by decide +kernel, rfl⟩
theorem d11_1 : Dc prog_19_method_12_code 1 (.iload_n 2) 1 2 := ⟨by decide +kernel, rfl⟩
theorem d11_2 : Dc prog_19_method_12_code 2 (.invokestatic 83) 3 5 := ⟨by decide +kernel, rfl⟩
theorem d11_5 : Dc prog_19_method_12_code 5 (.lushr) 1 6 := ⟨by decide +kernel, rfl⟩
theorem d11_6 : Dc prog_19_method_12_code 6 (.l2i) 1 7 := ⟨by decide +kernel, rfl⟩
theorem d11_7 : Dc prog_19_method_12_code 7 (.bipush 63) 2 9 := ⟨by decide +kernel, rfl⟩
theorem d11_9 : Dc prog_19_method_12_code 9 (.iand) 1 10 := ⟨by decide +kernel, rfl⟩
theorem d11_10 : Dc prog_19_method_12_code 10 (.ireturn) 1 11 := ⟨by decide +kernel, rfl⟩
theorem pn_rmsb : plainName "com/example/oswego/oswego/RunTimeHistogram" = true := by first | (simp [plainName, overriddenIn]; done) | decide +kernel
set_option maxRecDepth 65536 in
set_option maxHeartbeats 40000000 in
theorem rmsb (l : Launch) (Z : State) (a0 : Array Value) (hw : ∀ d ∈ tables_1, d.before a0 Z = true) (y : Int64) (r : Int32) (h0 : Heap) :
    Met l Z (⟨"com/example/oswego/oswego/RunTimeHistogram", "subBucketOf", "(JI)I"⟩ : MethodName) prog_19_method_12_code 3 (some .int) ({ frames := 2, cells := 0, slots := 0, locals := 27 } : Room) #[(.long y), (.int r)] h0 (fun v h' => v = some (.int (own_sb y r)) ∧ h0 = h' ∧ ¬ own_sb y r < (0 : Int32) ∧ own_sb y r < (64 : Int32)) := by
  refine met_of (Ls := #[.val (.long y), .second, .val (.int r)]) (plainFor_of_name pn_rmsb) (fun m => by first | (simp [entryFrame, mkF, argsToLocals, Value.category]; done) | rfl) (fun p e s m below meth c cx => ?_)
  refine g_lloadN cx d11_0 rfl ?_
  refine g_iloadN cx d11_1 rfl ?_
  refine g_static cx (y := (⟨"com/example/oswego/oswego/RunTimeHistogram", "widthBits", "(I)I"⟩ : MethodName)) d11_2 (hw _ (List.mem_of_getElem? (i := 65) rfl)) (hw _ (List.mem_of_getElem? (i := 66) rfl)) (hw _ (List.mem_of_getElem? (i := 4) rfl)) (hw _ (List.mem_of_getElem? (i := 67) rfl)) (by decide) (bytes := prog_19_method_14_code) (maxL' := 1) (M := (rmwb l Z a0 hw _ _)) rfl (lenOf pd_0 rfl) (by decide) (W := 2) (Nat.le_of_eq rfl) (by decide) (k' := 0) (n' := 0) rfl rfl (by decide) (by decide) (argsL := [(.int r)]) (rest := [(.long y)]) rfl (fun v2 h1 q3 => ?_)
  obtain ⟨rfl, rfl⟩ := q3
  refine G.cast (st' := [(.int (own_wb r)), (.long y)]) ?_ rfl
  refine g_lushr cx d11_5 ?_
  refine g_l2i cx d11_6 ?_
  refine g_bipush cx d11_7 (v := (63 : Int32)) rfl ?_
  refine g_iand cx d11_9 ?_
  refine g_retI cx d11_10 rfl (by decide) (by decide) ?_
  refine ⟨rfl, rfl, ?_⟩
  have e1 : (((((((y).toUInt64 >>> ((own_wb r) &&& 0x3f).toInt64.toUInt64).toInt64)).toInt32) &&& (63 : Int32))).toInt = ((((((y).toUInt64 >>> ((own_wb r) &&& 0x3f).toInt64.toUInt64).toInt64)).toInt32)).toInt % 64 := c_mask (((((y).toUInt64 >>> ((own_wb r) &&& 0x3f).toInt64.toUInt64).toInt64)).toInt32) (63 : Int32) 6 (by decide) (by decide)
  have e2 : (0 : Int32).toInt = 0 := rfl
  have e3 : (64 : Int32).toInt = 64 := rfl
  simp only [Int32.lt_iff_toInt_lt]
  show ¬ (((((((y).toUInt64 >>> ((own_wb r) &&& 0x3f).toInt64.toUInt64).toInt64)).toInt32) &&& (63 : Int32))).toInt < _ ∧ (((((((y).toUInt64 >>> ((own_wb r) &&& 0x3f).toInt64.toUInt64).toInt64)).toInt32) &&& (63 : Int32))).toInt < _
  omega
def own_nul : List Value := [.null, .null, .null, .null, .null, .null, .null, .null, .null, .null, .null, .null, .null, .null, .null, .null, .null, .null, .null, .null, .null, .null, .null, .null, .null, .null, .null, .null, .null, .null, .null, .null, .null, .null, .null, .null, .null, .null, .null, .null, .null, .null, .null, .null, .null, .null, .null, .null, .null, .null, .null, .null, .null, .null, .null, .null, .null, .null]
theorem own_nul_get : ∀ j, j < 58 → own_nul.getD j .null = .null := by decide
theorem own_In0 {Z : State} {h : Heap} {H bk : Addr} {ws : List Addr} : own_In Z h H bk ws own_nul (fun _ _ => 0) := fun j hj => Or.inl ⟨own_nul_get j hj, fun _ => rfl⟩
theorem own_Di0 : own_Di own_nul := fun i j hi hj _ a ha => by rw [own_nul_get i hi] at ha; cases ha
theorem d1_0 : Dc prog_19_method_1_code 0 (.aload_n 0) 1 1 := ⟨by decide +kernel, rfl⟩
theorem d1_1 : Dc prog_19_method_1_code 1 (.invokespecial 5) 3 4 := ⟨by decide +kernel, rfl⟩
theorem d1_4 : Dc prog_19_method_1_code 4 (.aload_n 0) 1 5 := ⟨by decide +kernel, rfl⟩
theorem d1_5 : Dc prog_19_method_1_code 5 (.bipush 58) 2 7 := ⟨by decide +kernel, rfl⟩
theorem d1_7 : Dc prog_19_method_1_code 7 (.anewarray 11) 3 10 := ⟨by decide +kernel, rfl⟩
theorem d1_10 : Dc prog_19_method_1_code 10 (.putfield 13) 3 13 := ⟨by decide +kernel, rfl⟩
theorem d1_13 : Dc prog_19_method_1_code 13 (.aload_n 0) 1 14 := ⟨by decide +kernel, rfl⟩
theorem d1_14 : Dc prog_19_method_1_code 14 (.ldc2_w 17) 3 17 := ⟨by decide +kernel, rfl⟩
theorem d1_17 : Dc prog_19_method_1_code 17 (.putfield 19) 3 20 := ⟨by decide +kernel, rfl⟩
theorem d1_20 : Dc prog_19_method_1_code 20 (.return_) 1 21 := ⟨by decide +kernel, rfl⟩
theorem pn_rmini : plainName "com/example/oswego/oswego/RunTimeHistogram" = true := by first | (simp [plainName, overriddenIn]; done) | decide +kernel
set_option maxRecDepth 65536 in
set_option maxHeartbeats 40000000 in
theorem rmini (l : Launch) (Z : State) (a0 : Array Value) (hw : ∀ d ∈ tables_1, d.before a0 Z = true) (a : Addr) (h0 : Heap) (O_a : ObH Z h0 a .null (.long (0 : Int64)) (.long (0 : Int64)) (.long (0 : Int64)) (.long (0 : Int64))) (g_a : Z.heap.size ≤ a) (OL : Old Z Z.heap.size h0) :
    Met l Z (⟨"com/example/oswego/oswego/RunTimeHistogram", "<init>", "()V"⟩ : MethodName) prog_19_method_1_code 1 none ({ frames := 1, cells := 1, slots := 58, locals := 12 } : Room) #[(.ref a)] h0 (fun v h' => ∃ ws, v = none ∧ Keep h0 h' [a] ∧ (∀ y ∈ ws, y ∈ [a] ∨ (h0.size ≤ y ∧ y < h'.size)) ∧ own_H Z h' a ws (fun _ _ => 0) (9223372036854775807 : Int64) (0 : Int64) (0 : Int64) (0 : Int64)) := by
  refine met_of (Ls := #[.val (.ref a)]) (plainFor_of_name pn_rmini) (fun m => by first | (simp [entryFrame, mkF, argsToLocals, Value.category]; done) | rfl) (fun p e s m below meth c cx => ?_)
  have KK := Keep.refl h0 [a]
  refine g_aloadN cx d1_0 rfl rfl ?_
  refine g_initO cx d1_1 (hw _ (List.mem_of_getElem? (i := 8) rfl)) (hw _ (List.mem_of_getElem? (i := 9) rfl)) (hw _ (List.mem_of_getElem? (i := 10) rfl)) rfl (by decide) (W := 0) (Nat.le_of_eq rfl) (by decide) ?_
  refine g_aloadN cx d1_4 rfl rfl ?_
  refine g_bipush cx d1_5 (v := (58 : Int32)) rfl ?_
  refine g_anewarrayA cx (C := "[J") (ad := "[[J") (t := .long) (by decide) (by decide) d1_7 (hw _ (List.mem_of_getElem? (i := 11) rfl)) (hw _ (List.mem_of_getElem? (i := 12) rfl)) (by decide) (cap := 58) (by decide) (by decide) (k' := 1) (n' := 58) rfl rfl (by decide) (by decide) (fun h1 b2 cA3 gb4 E5 X6 OV_b2 => ?_)
  have ne_a_b2 : a ≠ b2 := Nat.ne_of_lt (by rw [gb4]; exact O_a.lt)
  have g_b2 : Z.heap.size ≤ b2 := by rw [gb4]; exact OL.2.1
  have sz_b2 := (by rw [gb4]; exact KK.1 : h0.size ≤ b2)
  have O_a := O_a.ext E5
  have OL := OL.ext E5
  have KK := KK.ext E5
  have A_b2 : Arx Z h1 b2 cA3 (.array .long) (58 : Int32) [.null, .null, .null, .null, .null, .null, .null, .null, .null, .null, .null, .null, .null, .null, .null, .null, .null, .null, .null, .null, .null, .null, .null, .null, .null, .null, .null, .null, .null, .null, .null, .null, .null, .null, .null, .null, .null, .null, .null, .null, .null, .null, .null, .null, .null, .null, .null, .null, .null, .null, .null, .null, .null, .null, .null, .null, .null, .null] .null "[[J" := X6.pad (pad_rep [] .null 58)
  refine g_putF cx d1_10 (host := "") (Or.inl (hw _ (List.mem_of_getElem? (i := 13) rfl))) Via.refl O_a.2.1 O_a.1 (Or.inr ⟨(hw _ (List.mem_of_getElem? (i := 14) rfl)), rfl, rfl⟩) (hw _ (List.mem_of_getElem? (i := 3) rfl)) (ty := (.array (.array .long))) (by decide) rfl rfl g_a (fun h8 W9 => ?_)
  have O_a := O_a.put1 hw W9
  have A_b2 := A_b2.other W9 (Ne.symm ne_a_b2)
  have OL := OL.wr W9 g_a
  have KK := KK.wr W9 (Or.inl (List.mem_of_getElem? (i := 0) rfl))
  refine g_aloadN cx d1_13 rfl rfl ?_
  refine g_ldcJ cx d1_14 (hw _ (List.mem_of_getElem? (i := 15) rfl)) ?_
  refine g_putF cx d1_17 (host := "") (Or.inl (hw _ (List.mem_of_getElem? (i := 16) rfl))) Via.refl O_a.2.2.1 O_a.1 (Or.inl (hw _ (List.mem_of_getElem? (i := 17) rfl))) (hw _ (List.mem_of_getElem? (i := 3) rfl)) (ty := .long) (by decide) rfl rfl g_a (fun h10 W11 => ?_)
  have O_a := O_a.put2 hw W11
  have A_b2 := A_b2.other W11 (Ne.symm ne_a_b2)
  have OL := OL.wr W11 g_a
  have KK := KK.wr W11 (Or.inl (List.mem_of_getElem? (i := 0) rfl))
  refine g_retV cx d1_20 rfl (by decide) (by decide) ?_
  refine ⟨[a, b2], rfl, KK, fun y hy => ?_, b2, cA3, _, g_a, g_b2, ne_a_b2, by simp, by simp, O_a, A_b2, OV_b2, rfl, own_In0, own_Di0⟩
  simp only [List.mem_cons, List.not_mem_nil, or_false] at hy
  rcases hy with rfl | rfl
  · exact Or.inl (by simp)
  · exact Or.inr ⟨sz_b2, A_b2.lt⟩
theorem d6_0 : Dc prog_19_method_2_code 0 (.lload_n 1) 1 1 := ⟨by decide +kernel, rfl⟩
theorem d6_1 : Dc prog_19_method_2_code 1 (.invokestatic 23) 3 4 := ⟨by decide +kernel, rfl⟩
theorem d6_4 : Dc prog_19_method_2_code 4 (.istore_n 3) 1 5 := ⟨by decide +kernel, rfl⟩
theorem d6_5 : Dc prog_19_method_2_code 5 (.aload_n 0) 1 6 := ⟨by decide +kernel, rfl⟩
theorem d6_6 : Dc prog_19_method_2_code 6 (.getfield 13) 3 9 := ⟨by decide +kernel, rfl⟩
theorem d6_9 : Dc prog_19_method_2_code 9 (.iload_n 3) 1 10 := ⟨by decide +kernel, rfl⟩
theorem d6_10 : Dc prog_19_method_2_code 10 (.aaload) 1 11 := ⟨by decide +kernel, rfl⟩
theorem d6_11 : Bi prog_19_method_2_code 11 (Instr.ifnonnull) 24 14 := ⟨13, by decide +kernel, by decide, by decide, rfl⟩
theorem d6_14 : Dc prog_19_method_2_code 14 (.aload_n 0) 1 15 := ⟨by decide +kernel, rfl⟩
theorem d6_15 : Dc prog_19_method_2_code 15 (.getfield 13) 3 18 := ⟨by decide +kernel, rfl⟩
theorem d6_18 : Dc prog_19_method_2_code 18 (.iload_n 3) 1 19 := ⟨by decide +kernel, rfl⟩
theorem d6_19 : Dc prog_19_method_2_code 19 (.bipush 64) 2 21 := ⟨by decide +kernel, rfl⟩
theorem d6_21 : Dc prog_19_method_2_code 21 (.newarray .long) 2 23 := ⟨by decide +kernel, rfl⟩
theorem d6_23 : Dc prog_19_method_2_code 23 (.aastore) 1 24 := ⟨by decide +kernel, rfl⟩
theorem d6_24 : Dc prog_19_method_2_code 24 (.aload_n 0) 1 25 := ⟨by decide +kernel, rfl⟩
theorem d6_25 : Dc prog_19_method_2_code 25 (.getfield 13) 3 28 := ⟨by decide +kernel, rfl⟩
theorem d6_28 : Dc prog_19_method_2_code 28 (.iload_n 3) 1 29 := ⟨by decide +kernel, rfl⟩
theorem d6_29 : Dc prog_19_method_2_code 29 (.aaload) 1 30 := ⟨by decide +kernel, rfl⟩
theorem d6_30 : Dc prog_19_method_2_code 30 (.lload_n 1) 1 31 := ⟨by decide +kernel, rfl⟩
theorem d6_31 : Dc prog_19_method_2_code 31 (.iload_n 3) 1 32 := ⟨by decide +kernel, rfl⟩
theorem pd_3 : parseMethodDescriptor "(JI)I" = some ⟨[.long, .int], some .int⟩ := by decide +kernel
theorem d6_32 : Dc prog_19_method_2_code 32 (.invokestatic 27) 3 35 := ⟨by decide +kernel, rfl⟩
theorem d6_35 : Dc prog_19_method_2_code 35 (.dup2) 1 36 := ⟨by decide +kernel, rfl⟩
theorem d6_36 : Dc prog_19_method_2_code 36 (.laload) 1 37 := ⟨by decide +kernel, rfl⟩
theorem d6_37 : Dc prog_19_method_2_code 37 (.lconst 1) 1 38 := ⟨by decide +kernel, rfl⟩
theorem d6_38 : Dc prog_19_method_2_code 38 (.ladd) 1 39 := ⟨by decide +kernel, rfl⟩
theorem d6_39 : Dc prog_19_method_2_code 39 (.lastore) 1 40 := ⟨by decide +kernel, rfl⟩
theorem d6_40 : Dc prog_19_method_2_code 40 (.aload_n 0) 1 41 := ⟨by decide +kernel, rfl⟩
theorem d6_41 : Dc prog_19_method_2_code 41 (.dup) 1 42 := ⟨by decide +kernel, rfl⟩
theorem d6_42 : Dc prog_19_method_2_code 42 (.getfield 31) 3 45 := ⟨by decide +kernel, rfl⟩
theorem d6_45 : Dc prog_19_method_2_code 45 (.lconst 1) 1 46 := ⟨by decide +kernel, rfl⟩
theorem d6_46 : Dc prog_19_method_2_code 46 (.ladd) 1 47 := ⟨by decide +kernel, rfl⟩
theorem d6_47 : Dc prog_19_method_2_code 47 (.putfield 31) 3 50 := ⟨by decide +kernel, rfl⟩
theorem d6_50 : Dc prog_19_method_2_code 50 (.aload_n 0) 1 51 := ⟨by decide +kernel, rfl⟩
theorem d6_51 : Dc prog_19_method_2_code 51 (.dup) 1 52 := ⟨by decide +kernel, rfl⟩
theorem d6_52 : Dc prog_19_method_2_code 52 (.getfield 34) 3 55 := ⟨by decide +kernel, rfl⟩
theorem d6_55 : Dc prog_19_method_2_code 55 (.lload_n 1) 1 56 := ⟨by decide +kernel, rfl⟩
theorem d6_56 : Dc prog_19_method_2_code 56 (.ladd) 1 57 := ⟨by decide +kernel, rfl⟩
theorem d6_57 : Dc prog_19_method_2_code 57 (.putfield 34) 3 60 := ⟨by decide +kernel, rfl⟩
theorem d6_60 : Dc prog_19_method_2_code 60 (.aload_n 0) 1 61 := ⟨by decide +kernel, rfl⟩
theorem d6_61 : Dc prog_19_method_2_code 61 (.aload_n 0) 1 62 := ⟨by decide +kernel, rfl⟩
theorem d6_62 : Dc prog_19_method_2_code 62 (.getfield 19) 3 65 := ⟨by decide +kernel, rfl⟩
theorem d6_65 : Dc prog_19_method_2_code 65 (.lload_n 1) 1 66 := ⟨by decide +kernel, rfl⟩
theorem pd_4 : parseMethodDescriptor "(JJ)J" = some ⟨[.long, .long], some .long⟩ := by decide +kernel
theorem d6_66 : Dc prog_19_method_2_code 66 (.invokestatic 37) 3 69 := ⟨by decide +kernel, rfl⟩
theorem d6_69 : Dc prog_19_method_2_code 69 (.putfield 19) 3 72 := ⟨by decide +kernel, rfl⟩
theorem d6_72 : Dc prog_19_method_2_code 72 (.aload_n 0) 1 73 := ⟨by decide +kernel, rfl⟩
theorem d6_73 : Dc prog_19_method_2_code 73 (.aload_n 0) 1 74 := ⟨by decide +kernel, rfl⟩
theorem d6_74 : Dc prog_19_method_2_code 74 (.getfield 42) 3 77 := ⟨by decide +kernel, rfl⟩
theorem d6_77 : Dc prog_19_method_2_code 77 (.lload_n 1) 1 78 := ⟨by decide +kernel, rfl⟩
theorem d6_78 : Dc prog_19_method_2_code 78 (.invokestatic 45) 3 81 := ⟨by decide +kernel, rfl⟩
theorem d6_81 : Dc prog_19_method_2_code 81 (.putfield 42) 3 84 := ⟨by decide +kernel, rfl⟩
theorem d6_84 : Dc prog_19_method_2_code 84 (.return_) 1 85 := ⟨by decide +kernel, rfl⟩
theorem pn_rmrec : plainName "com/example/oswego/oswego/RunTimeHistogram" = true := by first | (simp [plainName, overriddenIn]; done) | decide +kernel
set_option maxRecDepth 65536 in
set_option maxHeartbeats 40000000 in
theorem rmrec (l : Launch) (Z : State) (a0 : Array Value) (hw : ∀ d ∈ tables_1, d.before a0 Z = true) (y : Int64) (hx : ¬ y < (0 : Int64)) (H : Addr) (ws : List Addr) (F : Nat → Nat → Int64) (mn ct sm mx : Int64) (h0 : Heap) (HH : own_H Z h0 H ws F mn ct sm mx) (OL : Old Z Z.heap.size h0) :
    Met l Z (⟨"com/example/oswego/oswego/RunTimeHistogram", "record", "(J)V"⟩ : MethodName) prog_19_method_2_code 4 none ({ frames := 3, cells := 1, slots := 64, locals := 43 } : Room) #[(.ref H), (.long y)] h0 (fun v h' => ∃ ws', v = none ∧ Old Z Z.heap.size h' ∧ Keep h0 h' ws ∧ (∀ z ∈ ws', z ∈ ws ∨ (h0.size ≤ z ∧ z < h'.size)) ∧ own_H Z h' H ws' (own_bump F (own_rg y).toNatClampNeg (own_sb y (own_rg y)).toNatClampNeg) (own_min mn y) (ct + (1 : Int64)) (sm + y) (own_max mx y) ∧ (own_rg y).toNatClampNeg < 58 ∧ (own_sb y (own_rg y)).toNatClampNeg < 64) := by
  refine met_of (Ls := #[.val (.ref H), .val (.long y), .second, .unset]) (plainFor_of_name pn_rmrec) (fun m => by first | (simp [entryFrame, mkF, argsToLocals, Value.category]; done) | rfl) (fun p e s m below meth c cx => ?_)
  obtain ⟨bk, cK, vs, g_H, g_bk, ne_H_bk, MH, MB, O_H, A_bk, OV_bk, hlen, JI, DI⟩ := HH
  have KK := Keep.refl h0 ws
  have kg_H := MH
  have kg_bk := MB
  refine g_lloadN cx d6_0 rfl ?_
  refine g_static cx (y := (⟨"com/example/oswego/oswego/RunTimeHistogram", "rangeOf", "(J)I"⟩ : MethodName)) d6_1 (hw _ (List.mem_of_getElem? (i := 44) rfl)) (hw _ (List.mem_of_getElem? (i := 45) rfl)) (hw _ (List.mem_of_getElem? (i := 4) rfl)) (hw _ (List.mem_of_getElem? (i := 46) rfl)) (by decide) (bytes := prog_19_method_11_code) (maxL' := 2) (M := (rmrg l Z a0 hw y hx _)) rfl (lenOf pd_1 rfl) (by decide) (W := 0) (Nat.le_of_eq rfl) (by decide) (k' := 0) (n' := 0) rfl rfl (by decide) (by decide) (argsL := [(.long y)]) (rest := []) rfl (fun v2 h1 q3 => ?_)
  obtain ⟨rfl, rfl, r0, r1⟩ := q3
  refine G.cast (st' := [(.int (own_rg y))]) ?_ rfl
  refine g_istoreN cx d6_4 (Ls' := #[.val (.ref H), .val (.long y), .second, .val (.int (own_rg y))]) rfl ?_
  refine g_aloadN cx d6_5 rfl rfl ?_
  refine g_getF cx d6_6 (host := "") (Or.inl (hw _ (List.mem_of_getElem? (i := 13) rfl))) Via.refl O_H.2.1 ?_
  refine g_iloadN cx d6_9 rfl ?_
  rcases JI _ (own_ix r0 r1) with ⟨hv, hz⟩ | ⟨aa, hv, LL, g_aa, nb, nh, hm⟩
  · refine g_aaload cx d6_10 A_bk.1 rfl ⟨r0, r1⟩ (v := .null) hv ?_
    refine g_ifnonnull_null cx d6_11 ?_
    refine g_aloadN cx d6_14 rfl rfl ?_
    refine g_getF cx d6_15 (host := "") (Or.inl (hw _ (List.mem_of_getElem? (i := 13) rfl))) Via.refl O_H.2.1 ?_
    refine g_iloadN cx d6_18 rfl ?_
    refine g_bipush cx d6_19 (v := (64 : Int32)) rfl ?_
    refine g_newarray cx (ad := "[J") (by decide) d6_21 (hw _ (List.mem_of_getElem? (i := 60) rfl)) (by decide) (cap := 64) (by decide) (by decide) (k' := 1) (n' := 64) rfl rfl (by decide) (by decide) (fun h4 b5 cA6 gb7 E8 X9 => ?_)
    have ne_H_b5 : H ≠ b5 := Nat.ne_of_lt (by rw [gb7]; exact O_H.lt)
    have ne_bk_b5 : bk ≠ b5 := Nat.ne_of_lt (by rw [gb7]; exact A_bk.lt)
    have g_b5 : Z.heap.size ≤ b5 := by rw [gb7]; exact OL.2.1
    have GB := gb7
    have sz_b5 : h0.size ≤ b5 := by rw [gb7]; exact KK.1
    have O_H := O_H.ext E8
    have A_bk := A_bk.ext E8
    have OL := OL.ext E8
    have FR := JI.fresh GB
    have JI := JI.ext E8
    have KK := KK.ext E8
    have A_b5 : Arx Z h4 b5 cA6 .long (64 : Int32) [(.long (0 : Int64)), (.long (0 : Int64)), (.long (0 : Int64)), (.long (0 : Int64)), (.long (0 : Int64)), (.long (0 : Int64)), (.long (0 : Int64)), (.long (0 : Int64)), (.long (0 : Int64)), (.long (0 : Int64)), (.long (0 : Int64)), (.long (0 : Int64)), (.long (0 : Int64)), (.long (0 : Int64)), (.long (0 : Int64)), (.long (0 : Int64)), (.long (0 : Int64)), (.long (0 : Int64)), (.long (0 : Int64)), (.long (0 : Int64)), (.long (0 : Int64)), (.long (0 : Int64)), (.long (0 : Int64)), (.long (0 : Int64)), (.long (0 : Int64)), (.long (0 : Int64)), (.long (0 : Int64)), (.long (0 : Int64)), (.long (0 : Int64)), (.long (0 : Int64)), (.long (0 : Int64)), (.long (0 : Int64)), (.long (0 : Int64)), (.long (0 : Int64)), (.long (0 : Int64)), (.long (0 : Int64)), (.long (0 : Int64)), (.long (0 : Int64)), (.long (0 : Int64)), (.long (0 : Int64)), (.long (0 : Int64)), (.long (0 : Int64)), (.long (0 : Int64)), (.long (0 : Int64)), (.long (0 : Int64)), (.long (0 : Int64)), (.long (0 : Int64)), (.long (0 : Int64)), (.long (0 : Int64)), (.long (0 : Int64)), (.long (0 : Int64)), (.long (0 : Int64)), (.long (0 : Int64)), (.long (0 : Int64)), (.long (0 : Int64)), (.long (0 : Int64)), (.long (0 : Int64)), (.long (0 : Int64)), (.long (0 : Int64)), (.long (0 : Int64)), (.long (0 : Int64)), (.long (0 : Int64)), (.long (0 : Int64)), (.long (0 : Int64))] (.long (0 : Int64)) "[J" := X9.pad (pad_rep [] (.long (0 : Int64)) 64)
    have fr := FR
    refine g_aastore cx d6_23 A_bk rfl rfl (sto_ofA A_bk OV_bk (Ins.self A_b5.2)) ⟨r0, r1⟩ (by rw [hlen]; exact own_ix r0 r1) g_bk (fun h10 W11 AA12 => ?_)
    have LL : own_L Z h10 b5 (fun _ => 0) := ⟨_, A_b5.other W11 (Ne.symm ne_bk_b5)⟩
    have O_H := O_H.oth W11 ne_H_bk
    have OL := OL.wr W11 g_bk
    have KK := KK.wr W11 (Or.inl kg_bk)
    have JI := (JI.wrB W11).put hlen (own_ix r0 r1) hv LL g_b5 ne_bk_b5 ne_H_b5
    have DI := DI.put hlen (own_ix r0 r1) fr
    have hv := own_set_get (v := .ref b5) hlen (own_ix r0 r1)
    have A_bk := AA12
    have hlen : (vs.set (own_rg y).toNatClampNeg (.ref b5)).length = 58 := List.length_set.trans hlen
    have MH := List.mem_cons_of_mem b5 MH
    have MB := List.mem_cons_of_mem b5 MB
    have kg_aa : b5 ∈ ws ∨ h0.size ≤ b5 := Or.inr sz_b5
    refine g_aloadN cx d6_24 rfl rfl ?_
    refine g_getF cx d6_25 (host := "") (Or.inl (hw _ (List.mem_of_getElem? (i := 13) rfl))) Via.refl O_H.2.1 ?_
    refine g_iloadN cx d6_28 rfl ?_
    refine g_aaload cx d6_29 A_bk.1 rfl ⟨r0, r1⟩ (v := .ref b5) hv ?_
    obtain ⟨cL, A_b5⟩ := LL
    refine g_lloadN cx d6_30 rfl ?_
    refine g_iloadN cx d6_31 rfl ?_
    refine g_static cx (y := (⟨"com/example/oswego/oswego/RunTimeHistogram", "subBucketOf", "(JI)I"⟩ : MethodName)) d6_32 (hw _ (List.mem_of_getElem? (i := 62) rfl)) (hw _ (List.mem_of_getElem? (i := 63) rfl)) (hw _ (List.mem_of_getElem? (i := 4) rfl)) (hw _ (List.mem_of_getElem? (i := 64) rfl)) (by decide) (bytes := prog_19_method_12_code) (maxL' := 3) (M := (rmsb l Z a0 hw y _ _)) rfl (lenOf pd_3 rfl) (by decide) (W := 1) (Nat.le_of_eq rfl) (by decide) (k' := 1) (n' := 64) rfl rfl (by decide) (by decide) (argsL := [(.long y), (.int (own_rg y))]) (rest := [(.ref b5)]) rfl (fun v14 h13 q15 => ?_)
    obtain ⟨rfl, rfl, q0, q1⟩ := q15
    refine G.cast (st' := [(.int (own_sb y (own_rg y))), (.ref b5)]) ?_ rfl
    refine g_dup2 cx d6_35 rfl rfl ?_
    refine g_laload cx d6_36 A_b5.1 ⟨q0, q1⟩ (v := .long (0 : Int64)) (own_rl_get _ (own_ix64 q0 q1) _) ?_
    refine g_lconst cx d6_37 (v := (1 : Int64)) rfl ?_
    refine g_ladd cx d6_38 ?_
    refine G.cast (st' := [(.long (1 : Int64)), (.int (own_sb y (own_rg y))), (.ref b5)]) ?_ rfl
    refine g_lastore cx d6_39 A_b5 ⟨q0, q1⟩ (by rw [own_rl_len]; exact own_ix64 q0 q1) g_b5 (fun h16 W17 AA18 => ?_)
    rw [own_rl_set] at AA18
    have O_H := O_H.oth W17 ne_H_b5
    have A_bk := A_bk.other W17 ne_bk_b5
    have OL := OL.wr W17 g_b5
    have KK := KK.wr W17 kg_aa
    have JI := JI.setL DI (Keep.of_wr W17) (own_ix r0 r1) hv ⟨cL, AA18⟩
    have hz' : F (own_rg y).toNatClampNeg = fun _ => 0 := funext hz
    have EF : (fun i => if i = (own_rg y).toNatClampNeg then own_upd (fun _ => (0 : Int64)) (own_sb y (own_rg y)).toNatClampNeg (1 : Int64) else F i) = own_bump F (own_rg y).toNatClampNeg (own_sb y (own_rg y)).toNatClampNeg := by
      unfold own_bump; rw [hz']; rfl
    rw [EF] at JI
    refine g_aloadN cx d6_40 rfl rfl ?_
    refine g_dup cx d6_41 rfl ?_
    refine g_getF cx d6_42 (host := "") (Or.inl (hw _ (List.mem_of_getElem? (i := 23) rfl))) Via.refl O_H.2.2.2.1 ?_
    refine g_lconst cx d6_45 (v := (1 : Int64)) rfl ?_
    refine g_ladd cx d6_46 ?_
    refine g_putF cx d6_47 (host := "") (Or.inl (hw _ (List.mem_of_getElem? (i := 23) rfl))) Via.refl O_H.2.2.2.1 O_H.1 (Or.inl (hw _ (List.mem_of_getElem? (i := 24) rfl))) (hw _ (List.mem_of_getElem? (i := 3) rfl)) (ty := .long) (by decide) rfl rfl g_H (fun h19 W20 => ?_)
    have O_H := O_H.put3 hw W20
    have A_bk := A_bk.other W20 (Ne.symm ne_H_bk)
    have OL := OL.wr W20 g_H
    have JI := JI.wrH W20
    have KK := KK.wr W20 (Or.inl kg_H)
    refine g_aloadN cx d6_50 rfl rfl ?_
    refine g_dup cx d6_51 rfl ?_
    refine g_getF cx d6_52 (host := "") (Or.inl (hw _ (List.mem_of_getElem? (i := 25) rfl))) Via.refl O_H.2.2.2.2.1 ?_
    refine g_lloadN cx d6_55 rfl ?_
    refine g_ladd cx d6_56 ?_
    refine g_putF cx d6_57 (host := "") (Or.inl (hw _ (List.mem_of_getElem? (i := 25) rfl))) Via.refl O_H.2.2.2.2.1 O_H.1 (Or.inl (hw _ (List.mem_of_getElem? (i := 26) rfl))) (hw _ (List.mem_of_getElem? (i := 3) rfl)) (ty := .long) (by decide) rfl rfl g_H (fun h21 W22 => ?_)
    have O_H := O_H.put4 hw W22
    have A_bk := A_bk.other W22 (Ne.symm ne_H_bk)
    have OL := OL.wr W22 g_H
    have JI := JI.wrH W22
    have KK := KK.wr W22 (Or.inl kg_H)
    refine g_aloadN cx d6_60 rfl rfl ?_
    refine g_aloadN cx d6_61 rfl rfl ?_
    refine g_getF cx d6_62 (host := "") (Or.inl (hw _ (List.mem_of_getElem? (i := 16) rfl))) Via.refl O_H.2.2.1 ?_
    refine g_lloadN cx d6_65 rfl ?_
    refine g_static cx (y := (⟨"java/lang/Math", "min", "(JJ)J"⟩ : MethodName)) d6_66 (hw _ (List.mem_of_getElem? (i := 68) rfl)) (hw _ (List.mem_of_getElem? (i := 69) rfl)) (hw _ (List.mem_of_getElem? (i := 58) rfl)) (hw _ (List.mem_of_getElem? (i := 70) rfl)) (by decide) (bytes := jdk_29_method_70_code) (maxL' := 4) (M := (rmnl l Z a0 hw _ _ _)) rfl (lenOf pd_4 rfl) (by decide) (W := 1) (Nat.le_of_eq rfl) (by decide) (k' := 1) (n' := 64) rfl rfl (by decide) (by decide) (argsL := [(.long mn), (.long y)]) (rest := [(.ref H)]) rfl (fun v24 h23 q25 => ?_)
    obtain ⟨rfl, rfl⟩ := q25
    refine G.cast (st' := [(.long (own_min mn y)), (.ref H)]) ?_ rfl
    refine g_putF cx d6_69 (host := "") (Or.inl (hw _ (List.mem_of_getElem? (i := 16) rfl))) Via.refl O_H.2.2.1 O_H.1 (Or.inl (hw _ (List.mem_of_getElem? (i := 17) rfl))) (hw _ (List.mem_of_getElem? (i := 3) rfl)) (ty := .long) (by decide) rfl rfl g_H (fun h26 W27 => ?_)
    have O_H := O_H.put2 hw W27
    have A_bk := A_bk.other W27 (Ne.symm ne_H_bk)
    have OL := OL.wr W27 g_H
    have JI := JI.wrH W27
    have KK := KK.wr W27 (Or.inl kg_H)
    refine g_aloadN cx d6_72 rfl rfl ?_
    refine g_aloadN cx d6_73 rfl rfl ?_
    refine g_getF cx d6_74 (host := "") (Or.inl (hw _ (List.mem_of_getElem? (i := 27) rfl))) Via.refl O_H.2.2.2.2.2 ?_
    refine g_lloadN cx d6_77 rfl ?_
    refine g_static cx (y := (⟨"java/lang/Math", "max", "(JJ)J"⟩ : MethodName)) d6_78 (hw _ (List.mem_of_getElem? (i := 71) rfl)) (hw _ (List.mem_of_getElem? (i := 72) rfl)) (hw _ (List.mem_of_getElem? (i := 58) rfl)) (hw _ (List.mem_of_getElem? (i := 73) rfl)) (by decide) (bytes := jdk_29_method_66_code) (maxL' := 4) (M := (rmxl l Z a0 hw _ _ _)) rfl (lenOf pd_4 rfl) (by decide) (W := 1) (Nat.le_of_eq rfl) (by decide) (k' := 1) (n' := 64) rfl rfl (by decide) (by decide) (argsL := [(.long mx), (.long y)]) (rest := [(.ref H)]) rfl (fun v29 h28 q30 => ?_)
    obtain ⟨rfl, rfl⟩ := q30
    refine G.cast (st' := [(.long (own_max mx y)), (.ref H)]) ?_ rfl
    refine g_putF cx d6_81 (host := "") (Or.inl (hw _ (List.mem_of_getElem? (i := 27) rfl))) Via.refl O_H.2.2.2.2.2 O_H.1 (Or.inl (hw _ (List.mem_of_getElem? (i := 28) rfl))) (hw _ (List.mem_of_getElem? (i := 3) rfl)) (ty := .long) (by decide) rfl rfl g_H (fun h31 W32 => ?_)
    have O_H := O_H.put5 hw W32
    have A_bk := A_bk.other W32 (Ne.symm ne_H_bk)
    have OL := OL.wr W32 g_H
    have JI := JI.wrH W32
    have KK := KK.wr W32 (Or.inl kg_H)
    refine g_retV cx d6_84 rfl (by decide) (by decide) ?_
    have LT := own_rowlt JI (own_ix r0 r1) hv
    exact ⟨_, rfl, OL, KK, fun z hz => (List.mem_cons.mp hz).elim (fun q => Or.inr (by rw [q]; exact ⟨sz_b5, LT⟩)) Or.inl, ⟨bk, cK, _, g_H, g_bk, ne_H_bk, MH, MB, O_H, A_bk, OV_bk, hlen, JI, DI⟩, own_ix r0 r1, own_ix64 q0 q1⟩
  · refine g_aaload cx d6_10 A_bk.1 rfl ⟨r0, r1⟩ (v := .ref aa) hv ?_
    refine g_ifnonnull_ref cx d6_11 ?_
    refine g_aloadN cx d6_24 rfl rfl ?_
    refine g_getF cx d6_25 (host := "") (Or.inl (hw _ (List.mem_of_getElem? (i := 13) rfl))) Via.refl O_H.2.1 ?_
    refine g_iloadN cx d6_28 rfl ?_
    refine g_aaload cx d6_29 A_bk.1 rfl ⟨r0, r1⟩ (v := .ref aa) hv ?_
    have kg_aa : aa ∈ ws ∨ h0.size ≤ aa := Or.inl hm
    have ne_bk_aa := nb
    have ne_H_aa := nh
    obtain ⟨cL, A_aa⟩ := LL
    refine g_lloadN cx d6_30 rfl ?_
    refine g_iloadN cx d6_31 rfl ?_
    refine g_static cx (y := (⟨"com/example/oswego/oswego/RunTimeHistogram", "subBucketOf", "(JI)I"⟩ : MethodName)) d6_32 (hw _ (List.mem_of_getElem? (i := 62) rfl)) (hw _ (List.mem_of_getElem? (i := 63) rfl)) (hw _ (List.mem_of_getElem? (i := 4) rfl)) (hw _ (List.mem_of_getElem? (i := 64) rfl)) (by decide) (bytes := prog_19_method_12_code) (maxL' := 3) (M := (rmsb l Z a0 hw y _ _)) rfl (lenOf pd_3 rfl) (by decide) (W := 1) (Nat.le_of_eq rfl) (by decide) (k' := 0) (n' := 0) rfl rfl (by decide) (by decide) (argsL := [(.long y), (.int (own_rg y))]) (rest := [(.ref aa)]) rfl (fun v34 h33 q35 => ?_)
    obtain ⟨rfl, rfl, q0, q1⟩ := q35
    refine G.cast (st' := [(.int (own_sb y (own_rg y))), (.ref aa)]) ?_ rfl
    refine g_dup2 cx d6_35 rfl rfl ?_
    refine g_laload cx d6_36 A_aa.1 ⟨q0, q1⟩ (v := .long (F (own_rg y).toNatClampNeg (own_sb y (own_rg y)).toNatClampNeg)) (own_rl_get _ (own_ix64 q0 q1) _) ?_
    refine g_lconst cx d6_37 (v := (1 : Int64)) rfl ?_
    refine g_ladd cx d6_38 ?_
    refine g_lastore cx d6_39 A_aa ⟨q0, q1⟩ (by rw [own_rl_len]; exact own_ix64 q0 q1) g_aa (fun h36 W37 AA38 => ?_)
    rw [own_rl_set] at AA38
    have O_H := O_H.oth W37 ne_H_aa
    have A_bk := A_bk.other W37 ne_bk_aa
    have OL := OL.wr W37 g_aa
    have KK := KK.wr W37 kg_aa
    have JI := JI.setL DI (Keep.of_wr W37) (own_ix r0 r1) hv ⟨cL, AA38⟩
    refine g_aloadN cx d6_40 rfl rfl ?_
    refine g_dup cx d6_41 rfl ?_
    refine g_getF cx d6_42 (host := "") (Or.inl (hw _ (List.mem_of_getElem? (i := 23) rfl))) Via.refl O_H.2.2.2.1 ?_
    refine g_lconst cx d6_45 (v := (1 : Int64)) rfl ?_
    refine g_ladd cx d6_46 ?_
    refine g_putF cx d6_47 (host := "") (Or.inl (hw _ (List.mem_of_getElem? (i := 23) rfl))) Via.refl O_H.2.2.2.1 O_H.1 (Or.inl (hw _ (List.mem_of_getElem? (i := 24) rfl))) (hw _ (List.mem_of_getElem? (i := 3) rfl)) (ty := .long) (by decide) rfl rfl g_H (fun h39 W40 => ?_)
    have O_H := O_H.put3 hw W40
    have A_bk := A_bk.other W40 (Ne.symm ne_H_bk)
    have OL := OL.wr W40 g_H
    have JI := JI.wrH W40
    have KK := KK.wr W40 (Or.inl kg_H)
    refine g_aloadN cx d6_50 rfl rfl ?_
    refine g_dup cx d6_51 rfl ?_
    refine g_getF cx d6_52 (host := "") (Or.inl (hw _ (List.mem_of_getElem? (i := 25) rfl))) Via.refl O_H.2.2.2.2.1 ?_
    refine g_lloadN cx d6_55 rfl ?_
    refine g_ladd cx d6_56 ?_
    refine g_putF cx d6_57 (host := "") (Or.inl (hw _ (List.mem_of_getElem? (i := 25) rfl))) Via.refl O_H.2.2.2.2.1 O_H.1 (Or.inl (hw _ (List.mem_of_getElem? (i := 26) rfl))) (hw _ (List.mem_of_getElem? (i := 3) rfl)) (ty := .long) (by decide) rfl rfl g_H (fun h41 W42 => ?_)
    have O_H := O_H.put4 hw W42
    have A_bk := A_bk.other W42 (Ne.symm ne_H_bk)
    have OL := OL.wr W42 g_H
    have JI := JI.wrH W42
    have KK := KK.wr W42 (Or.inl kg_H)
    refine g_aloadN cx d6_60 rfl rfl ?_
    refine g_aloadN cx d6_61 rfl rfl ?_
    refine g_getF cx d6_62 (host := "") (Or.inl (hw _ (List.mem_of_getElem? (i := 16) rfl))) Via.refl O_H.2.2.1 ?_
    refine g_lloadN cx d6_65 rfl ?_
    refine g_static cx (y := (⟨"java/lang/Math", "min", "(JJ)J"⟩ : MethodName)) d6_66 (hw _ (List.mem_of_getElem? (i := 68) rfl)) (hw _ (List.mem_of_getElem? (i := 69) rfl)) (hw _ (List.mem_of_getElem? (i := 58) rfl)) (hw _ (List.mem_of_getElem? (i := 70) rfl)) (by decide) (bytes := jdk_29_method_70_code) (maxL' := 4) (M := (rmnl l Z a0 hw _ _ _)) rfl (lenOf pd_4 rfl) (by decide) (W := 1) (Nat.le_of_eq rfl) (by decide) (k' := 0) (n' := 0) rfl rfl (by decide) (by decide) (argsL := [(.long mn), (.long y)]) (rest := [(.ref H)]) rfl (fun v44 h43 q45 => ?_)
    obtain ⟨rfl, rfl⟩ := q45
    refine G.cast (st' := [(.long (own_min mn y)), (.ref H)]) ?_ rfl
    refine g_putF cx d6_69 (host := "") (Or.inl (hw _ (List.mem_of_getElem? (i := 16) rfl))) Via.refl O_H.2.2.1 O_H.1 (Or.inl (hw _ (List.mem_of_getElem? (i := 17) rfl))) (hw _ (List.mem_of_getElem? (i := 3) rfl)) (ty := .long) (by decide) rfl rfl g_H (fun h46 W47 => ?_)
    have O_H := O_H.put2 hw W47
    have A_bk := A_bk.other W47 (Ne.symm ne_H_bk)
    have OL := OL.wr W47 g_H
    have JI := JI.wrH W47
    have KK := KK.wr W47 (Or.inl kg_H)
    refine g_aloadN cx d6_72 rfl rfl ?_
    refine g_aloadN cx d6_73 rfl rfl ?_
    refine g_getF cx d6_74 (host := "") (Or.inl (hw _ (List.mem_of_getElem? (i := 27) rfl))) Via.refl O_H.2.2.2.2.2 ?_
    refine g_lloadN cx d6_77 rfl ?_
    refine g_static cx (y := (⟨"java/lang/Math", "max", "(JJ)J"⟩ : MethodName)) d6_78 (hw _ (List.mem_of_getElem? (i := 71) rfl)) (hw _ (List.mem_of_getElem? (i := 72) rfl)) (hw _ (List.mem_of_getElem? (i := 58) rfl)) (hw _ (List.mem_of_getElem? (i := 73) rfl)) (by decide) (bytes := jdk_29_method_66_code) (maxL' := 4) (M := (rmxl l Z a0 hw _ _ _)) rfl (lenOf pd_4 rfl) (by decide) (W := 1) (Nat.le_of_eq rfl) (by decide) (k' := 0) (n' := 0) rfl rfl (by decide) (by decide) (argsL := [(.long mx), (.long y)]) (rest := [(.ref H)]) rfl (fun v49 h48 q50 => ?_)
    obtain ⟨rfl, rfl⟩ := q50
    refine G.cast (st' := [(.long (own_max mx y)), (.ref H)]) ?_ rfl
    refine g_putF cx d6_81 (host := "") (Or.inl (hw _ (List.mem_of_getElem? (i := 27) rfl))) Via.refl O_H.2.2.2.2.2 O_H.1 (Or.inl (hw _ (List.mem_of_getElem? (i := 28) rfl))) (hw _ (List.mem_of_getElem? (i := 3) rfl)) (ty := .long) (by decide) rfl rfl g_H (fun h51 W52 => ?_)
    have O_H := O_H.put5 hw W52
    have A_bk := A_bk.other W52 (Ne.symm ne_H_bk)
    have OL := OL.wr W52 g_H
    have JI := JI.wrH W52
    have KK := KK.wr W52 (Or.inl kg_H)
    refine g_retV cx d6_84 rfl (by decide) (by decide) ?_
    have LT := own_rowlt JI (own_ix r0 r1) hv
    exact ⟨_, rfl, OL, KK, fun z hz => Or.inl hz, ⟨bk, cK, _, g_H, g_bk, ne_H_bk, MH, MB, O_H, A_bk, OV_bk, hlen, JI, DI⟩, own_ix r0 r1, own_ix64 q0 q1⟩
theorem d16_0 : Dc prog_19_method_7_code 0 (.aload_n 0) 1 1 := ⟨by decide +kernel, rfl⟩
theorem d16_1 : Dc prog_19_method_7_code 1 (.getfield 31) 3 4 := ⟨by decide +kernel, rfl⟩
theorem d16_4 : Dc prog_19_method_7_code 4 (.lconst 0) 1 5 := ⟨by decide +kernel, rfl⟩
theorem d16_5 : Dc prog_19_method_7_code 5 (.lcmp) 1 6 := ⟨by decide +kernel, rfl⟩
theorem d16_6 : Bi prog_19_method_7_code 6 (Instr.ifCond .ne) 13 9 := ⟨7, by decide +kernel, by decide, by decide, rfl⟩
theorem d16_13 : Dc prog_19_method_7_code 13 (.aload_n 0) 1 14 := ⟨by decide +kernel, rfl⟩
theorem d16_14 : Dc prog_19_method_7_code 14 (.getfield 19) 3 17 := ⟨by decide +kernel, rfl⟩
theorem d16_17 : Dc prog_19_method_7_code 17 (.lreturn) 1 18 := ⟨by decide +kernel, rfl⟩
theorem d16_9 : Dc prog_19_method_7_code 9 (.lconst 0) 1 10 := ⟨by decide +kernel, rfl⟩
theorem d16_10 : Bi prog_19_method_7_code 10 (Instr.goto) 17 13 := ⟨7, by decide +kernel, by decide, by decide, rfl⟩
theorem pn_rmgmin : plainName "com/example/oswego/oswego/RunTimeHistogram" = true := by first | (simp [plainName, overriddenIn]; done) | decide +kernel
set_option maxRecDepth 65536 in
set_option maxHeartbeats 40000000 in
theorem rmgmin (l : Launch) (Z : State) (a0 : Array Value) (hw : ∀ d ∈ tables_1, d.before a0 Z = true) (H : Addr) (ws : List Addr) (F : Nat → Nat → Int64) (mn ct sm mx : Int64) (h0 : Heap) (HH : own_H Z h0 H ws F mn ct sm mx) (OL : Old Z Z.heap.size h0) :
    Met l Z (⟨"com/example/oswego/oswego/RunTimeHistogram", "min", "()J"⟩ : MethodName) prog_19_method_7_code 1 (some .long) ({ frames := 0, cells := 0, slots := 0, locals := 0 } : Room) #[(.ref H)] h0 (fun v h' => v = some (.long (own_mv ct mn)) ∧ h0 = h') := by
  refine met_of (Ls := #[.val (.ref H)]) (plainFor_of_name pn_rmgmin) (fun m => by first | (simp [entryFrame, mkF, argsToLocals, Value.category]; done) | rfl) (fun p e s m below meth c cx => ?_)
  obtain ⟨bk, cK, vs, g_H, g_bk, ne_H_bk, MH, MB, O_H, A_bk, OV_bk, hlen, JI, DI⟩ := HH
  refine g_aloadN cx d16_0 rfl rfl ?_
  refine g_getF cx d16_1 (host := "") (Or.inl (hw _ (List.mem_of_getElem? (i := 23) rfl))) Via.refl O_H.2.2.2.1 ?_
  refine g_lconst cx d16_4 (v := (0 : Int64)) rfl ?_
  refine g_lif_ne cx d16_5 d16_6 (fun hc6 => ?_) (fun hc6 => ?_)
  · refine g_aloadN cx d16_13 rfl rfl ?_
    refine g_getF cx d16_14 (host := "") (Or.inl (hw _ (List.mem_of_getElem? (i := 16) rfl))) Via.refl O_H.2.2.1 ?_
    refine g_retJ cx d16_17 rfl (by decide) (by decide) ?_
    exact ⟨by simp [own_mv, hc6], rfl⟩
  · refine g_lconst cx d16_9 (v := (0 : Int64)) rfl ?_
    refine g_goto cx d16_10 ?_
    refine g_retJ cx d16_17 rfl (by decide) (by decide) ?_
    exact ⟨by simp [own_mv, hc6], rfl⟩
theorem d4_0 : Dc prog_19_method_5_code 0 (.aload_n 0) 1 1 := ⟨by decide +kernel, rfl⟩
theorem d4_1 : Dc prog_19_method_5_code 1 (.getfield 31) 3 4 := ⟨by decide +kernel, rfl⟩
theorem d4_4 : Dc prog_19_method_5_code 4 (.lreturn) 1 5 := ⟨by decide +kernel, rfl⟩
theorem pn_rmgcount : plainName "com/example/oswego/oswego/RunTimeHistogram" = true := by first | (simp [plainName, overriddenIn]; done) | decide +kernel
set_option maxRecDepth 65536 in
set_option maxHeartbeats 40000000 in
theorem rmgcount (l : Launch) (Z : State) (a0 : Array Value) (hw : ∀ d ∈ tables_1, d.before a0 Z = true) (H : Addr) (ws : List Addr) (F : Nat → Nat → Int64) (mn ct sm mx : Int64) (h0 : Heap) (HH : own_H Z h0 H ws F mn ct sm mx) (OL : Old Z Z.heap.size h0) :
    Met l Z (⟨"com/example/oswego/oswego/RunTimeHistogram", "count", "()J"⟩ : MethodName) prog_19_method_5_code 1 (some .long) ({ frames := 0, cells := 0, slots := 0, locals := 0 } : Room) #[(.ref H)] h0 (fun v h' => v = some (.long ct) ∧ h0 = h') := by
  refine met_of (Ls := #[.val (.ref H)]) (plainFor_of_name pn_rmgcount) (fun m => by first | (simp [entryFrame, mkF, argsToLocals, Value.category]; done) | rfl) (fun p e s m below meth c cx => ?_)
  obtain ⟨bk, cK, vs, g_H, g_bk, ne_H_bk, MH, MB, O_H, A_bk, OV_bk, hlen, JI, DI⟩ := HH
  refine g_aloadN cx d4_0 rfl rfl ?_
  refine g_getF cx d4_1 (host := "") (Or.inl (hw _ (List.mem_of_getElem? (i := 23) rfl))) Via.refl O_H.2.2.2.1 ?_
  refine g_retJ cx d4_4 rfl (by decide) (by decide) ?_
  exact ⟨rfl, rfl⟩
theorem d15_0 : Dc prog_19_method_6_code 0 (.aload_n 0) 1 1 := ⟨by decide +kernel, rfl⟩
theorem d15_1 : Dc prog_19_method_6_code 1 (.getfield 34) 3 4 := ⟨by decide +kernel, rfl⟩
theorem d15_4 : Dc prog_19_method_6_code 4 (.lreturn) 1 5 := ⟨by decide +kernel, rfl⟩
theorem pn_rmgsum : plainName "com/example/oswego/oswego/RunTimeHistogram" = true := by first | (simp [plainName, overriddenIn]; done) | decide +kernel
set_option maxRecDepth 65536 in
set_option maxHeartbeats 40000000 in
theorem rmgsum (l : Launch) (Z : State) (a0 : Array Value) (hw : ∀ d ∈ tables_1, d.before a0 Z = true) (H : Addr) (ws : List Addr) (F : Nat → Nat → Int64) (mn ct sm mx : Int64) (h0 : Heap) (HH : own_H Z h0 H ws F mn ct sm mx) (OL : Old Z Z.heap.size h0) :
    Met l Z (⟨"com/example/oswego/oswego/RunTimeHistogram", "sum", "()J"⟩ : MethodName) prog_19_method_6_code 1 (some .long) ({ frames := 0, cells := 0, slots := 0, locals := 0 } : Room) #[(.ref H)] h0 (fun v h' => v = some (.long sm) ∧ h0 = h') := by
  refine met_of (Ls := #[.val (.ref H)]) (plainFor_of_name pn_rmgsum) (fun m => by first | (simp [entryFrame, mkF, argsToLocals, Value.category]; done) | rfl) (fun p e s m below meth c cx => ?_)
  obtain ⟨bk, cK, vs, g_H, g_bk, ne_H_bk, MH, MB, O_H, A_bk, OV_bk, hlen, JI, DI⟩ := HH
  refine g_aloadN cx d15_0 rfl rfl ?_
  refine g_getF cx d15_1 (host := "") (Or.inl (hw _ (List.mem_of_getElem? (i := 25) rfl))) Via.refl O_H.2.2.2.2.1 ?_
  refine g_retJ cx d15_4 rfl (by decide) (by decide) ?_
  exact ⟨rfl, rfl⟩
theorem d5_0 : Dc prog_19_method_8_code 0 (.aload_n 0) 1 1 := ⟨by decide +kernel, rfl⟩
theorem d5_1 : Dc prog_19_method_8_code 1 (.getfield 42) 3 4 := ⟨by decide +kernel, rfl⟩
theorem d5_4 : Dc prog_19_method_8_code 4 (.lreturn) 1 5 := ⟨by decide +kernel, rfl⟩
theorem pn_rmgmax : plainName "com/example/oswego/oswego/RunTimeHistogram" = true := by first | (simp [plainName, overriddenIn]; done) | decide +kernel
set_option maxRecDepth 65536 in
set_option maxHeartbeats 40000000 in
theorem rmgmax (l : Launch) (Z : State) (a0 : Array Value) (hw : ∀ d ∈ tables_1, d.before a0 Z = true) (H : Addr) (ws : List Addr) (F : Nat → Nat → Int64) (mn ct sm mx : Int64) (h0 : Heap) (HH : own_H Z h0 H ws F mn ct sm mx) (OL : Old Z Z.heap.size h0) :
    Met l Z (⟨"com/example/oswego/oswego/RunTimeHistogram", "max", "()J"⟩ : MethodName) prog_19_method_8_code 1 (some .long) ({ frames := 0, cells := 0, slots := 0, locals := 0 } : Room) #[(.ref H)] h0 (fun v h' => v = some (.long mx) ∧ h0 = h') := by
  refine met_of (Ls := #[.val (.ref H)]) (plainFor_of_name pn_rmgmax) (fun m => by first | (simp [entryFrame, mkF, argsToLocals, Value.category]; done) | rfl) (fun p e s m below meth c cx => ?_)
  obtain ⟨bk, cK, vs, g_H, g_bk, ne_H_bk, MH, MB, O_H, A_bk, OV_bk, hlen, JI, DI⟩ := HH
  refine g_aloadN cx d5_0 rfl rfl ?_
  refine g_getF cx d5_1 (host := "") (Or.inl (hw _ (List.mem_of_getElem? (i := 27) rfl))) Via.refl O_H.2.2.2.2.2 ?_
  refine g_retJ cx d5_4 rfl (by decide) (by decide) ?_
  exact ⟨rfl, rfl⟩
theorem own_zs {i : Int32} {f : Nat → Int64} (i0 : ¬ i < (0 : Int32)) (i1 : i < (64 : Int32)) (hz : ∀ j, j < i.toNatClampNeg → f j = 0) : ∀ j, j < (i + (1 : Int32)).toNatClampNeg → own_upd f i.toNatClampNeg (0 : Int64) j = 0 := by
  intro j hj
  have h1 : ¬ i.toInt < (0 : Int32).toInt := fun z => i0 (Int32.lt_iff_toInt_lt.mpr z)
  have h2 := Int32.lt_iff_toInt_lt.mp i1
  have e1 : (64 : Int32).toInt = 64 := rfl
  have e0 : (0 : Int32).toInt = 0 := rfl
  have e2 : (1 : Int32).toInt = 1 := rfl
  have w1 := c_iadd i (1 : Int32)
  have w2 := rng32 (i + (1 : Int32))
  simp only [Int32.toNatClampNeg] at hj
  unfold own_upd
  by_cases q : j = i.toNatClampNeg
  · simp [q]
  · rw [if_neg q]
    refine hz j ?_
    simp only [Int32.toNatClampNeg] at q ⊢
    omega
theorem own_all {i : Int32} {f : Nat → Int64} (i1 : ¬ i < (64 : Int32)) (i0 : ¬ i < (0 : Int32)) (hz : ∀ j, j < i.toNatClampNeg → f j = 0) : own_rl f = own_rl (fun _ => 0) := by
  unfold own_rl
  refine List.map_congr_left fun j hj => ?_
  have hj := List.mem_range.mp hj
  have h2 : ¬ i.toInt < (64 : Int32).toInt := fun z => i1 (Int32.lt_iff_toInt_lt.mpr z)
  have e1 : (64 : Int32).toInt = 64 := rfl
  rw [hz j (by simp only [Int32.toNatClampNeg]; omega)]
theorem d18_6 : Dc jdk_65_method_101_code 6 (.iload_n 3) 1 7 := ⟨by decide +kernel, rfl⟩
theorem d18_7 : Dc jdk_65_method_101_code 7 (.iload 4) 2 9 := ⟨by decide +kernel, rfl⟩
theorem d18_9 : Bi jdk_65_method_101_code 9 (Instr.if_icmp .ge) 22 12 := ⟨13, by decide +kernel, by decide, by decide, rfl⟩
theorem d18_22 : Dc jdk_65_method_101_code 22 (.return_) 1 23 := ⟨by decide +kernel, rfl⟩
theorem d18_12 : Dc jdk_65_method_101_code 12 (.aload_n 0) 1 13 := ⟨by decide +kernel, rfl⟩
theorem d18_13 : Dc jdk_65_method_101_code 13 (.iload_n 3) 1 14 := ⟨by decide +kernel, rfl⟩
theorem d18_14 : Dc jdk_65_method_101_code 14 (.lload_n 1) 1 15 := ⟨by decide +kernel, rfl⟩
theorem d18_15 : Dc jdk_65_method_101_code 15 (.lastore) 1 16 := ⟨by decide +kernel, rfl⟩
theorem d18_16 : Dc jdk_65_method_101_code 16 (.iinc 3 1) 3 19 := ⟨by decide +kernel, rfl⟩
theorem d18_19 : Bi jdk_65_method_101_code 19 (Instr.goto) 6 22 := ⟨(-13), by decide +kernel, by decide, by decide, rfl⟩
theorem own_d1 {i : Int32} {fu : Nat} (i0 : ¬ i < (0 : Int32)) (i1 : i < (64 : Int32)) (q : 64 - i.toInt ≤ ((fu + 1 : Nat) : Int)) : 64 - (i + (1 : Int32)).toInt ≤ (fu : Nat) := by
  have w1 := c_iadd i (1 : Int32)
  have w2 := rng32 (i + (1 : Int32))
  have z1 : (1 : Int32).toInt = 1 := rfl
  have y1 := Int32.lt_iff_toInt_lt.mp i1
  have y0 : ¬ i.toInt < (0 : Int32).toInt := fun z => i0 (Int32.lt_iff_toInt_lt.mpr z)
  have z0 : (0 : Int32).toInt = 0 := rfl
  have e64 : (64 : Int32).toInt = 64 := rfl
  omega
theorem own_d2 {i : Int32} (i0 : ¬ i < (0 : Int32)) (i1 : i < (64 : Int32)) : ¬ (i + (1 : Int32)) < (0 : Int32) := fun z => by
  have w1 := c_iadd i (1 : Int32)
  have w2 := rng32 (i + (1 : Int32))
  have z1 : (1 : Int32).toInt = 1 := rfl
  have y1 := Int32.lt_iff_toInt_lt.mp i1
  have y0 : ¬ i.toInt < (0 : Int32).toInt := fun z => i0 (Int32.lt_iff_toInt_lt.mpr z)
  have z0 : (0 : Int32).toInt = 0 := rfl
  have y2 := Int32.lt_iff_toInt_lt.mp z
  have e64 : (64 : Int32).toInt = 64 := rfl
  omega
theorem d18_0 : Dc jdk_65_method_101_code 0 (.iconst 0) 1 1 := ⟨by decide +kernel, rfl⟩
theorem d18_1 : Dc jdk_65_method_101_code 1 (.istore_n 3) 1 2 := ⟨by decide +kernel, rfl⟩
theorem d18_2 : Dc jdk_65_method_101_code 2 (.aload_n 0) 1 3 := ⟨by decide +kernel, rfl⟩
theorem d18_3 : Dc jdk_65_method_101_code 3 (.arraylength) 1 4 := ⟨by decide +kernel, rfl⟩
theorem d18_4 : Dc jdk_65_method_101_code 4 (.istore 4) 2 6 := ⟨by decide +kernel, rfl⟩
theorem pn_rmfil : plainName "java/util/Arrays" = true := by first | (simp [plainName, overriddenIn]; done) | decide +kernel
set_option maxRecDepth 65536 in
set_option maxHeartbeats 40000000 in
theorem rmfil (l : Launch) (Z : State) (a0 : Array Value) (hw : ∀ d ∈ tables_1, d.before a0 Z = true) (a : Addr) (f0 : Nat → Int64) (cL : ClassId) (h0 : Heap) (A_a : Arx Z h0 a cL .long (64 : Int32) (own_rl f0) (.long 0) "[J") (g_a : Z.heap.size ≤ a) (OL : Old Z Z.heap.size h0) :
    Met l Z (⟨"java/util/Arrays", "fill", "([JJ)V"⟩ : MethodName) jdk_65_method_101_code 5 none ({ frames := 0, cells := 0, slots := 0, locals := 0 } : Room) #[(.ref a), (.long (0 : Int64))] h0 (fun v h' => v = none ∧ Keep h0 h' [a] ∧ Old Z Z.heap.size h' ∧ own_L Z h' a (fun _ => 0)) := by
  refine met_of (Ls := #[.val (.ref a), .val (.long (0 : Int64)), .second, .unset, .unset]) (plainFor_of_name pn_rmfil) (fun m => by first | (simp [entryFrame, mkF, argsToLocals, Value.category]; done) | rfl) (fun p e s m below meth c cx => ?_)
  have loop : ∀ (fu : Nat) (i : Int32) (h : Heap) (f : Nat → Int64) (cL : ClassId), 64 - i.toInt ≤ (fu : Nat) → ¬ i < (0 : Int32) → (∀ j, j < i.toNatClampNeg → f j = 0) → Keep h0 h [a] → Old Z Z.heap.size h → Arx Z h a cL .long (64 : Int32) (own_rl f) (.long 0) "[J" → G p l e ({ frames := 0, cells := 0, slots := 0, locals := 0 } : Room) s m #[.ref a, .long (0 : Int64)] below meth c Z.heap.size (fun v h' => v = none ∧ Keep h0 h' [a] ∧ Old Z Z.heap.size h' ∧ own_L Z h' a (fun _ => 0)) h 0 0 6 #[.val (.ref a), .val (.long (0 : Int64)), .second, .val (.int i), .val (.int (64 : Int32))] [] := by
    intro fu
    induction fu with
    | zero =>
      intro i h f cL hfu i0 hz KK OL A_a
      have i1 : ¬ i < (64 : Int32) := fun z => by have := Int32.lt_iff_toInt_lt.mp z; have e1 : (64 : Int32).toInt = 64 := rfl; omega
      refine g_iloadN cx d18_6 rfl ?_
      refine g_iload cx d18_7 rfl ?_
      refine g_icmp_ge cx d18_9 (fun hc9 => ?_) (fun q => absurd q (fun q => i1 q))
      refine g_retV cx d18_22 rfl (by decide) (by decide) ?_
      refine ⟨rfl, KK, OL, cL, ?_⟩
      rw [← own_all hc9 i0 hz]
      exact A_a
    | succ fu ih =>
      intro i h f cL hfu i0 hz KK OL A_a
      have loop := fun i h f cL (q : 64 - (i : Int32).toInt ≤ (fu : Nat)) => ih i h f cL q
      refine g_iloadN cx d18_6 rfl ?_
      refine g_iload cx d18_7 rfl ?_
      refine g_icmp_ge cx d18_9 (fun hc9 => ?_) (fun hc9 => ?_)
      · refine g_retV cx d18_22 rfl (by decide) (by decide) ?_
        refine ⟨rfl, KK, OL, cL, ?_⟩
        rw [← own_all hc9 i0 hz]
        exact A_a
      · refine g_aloadN cx d18_12 rfl rfl ?_
        refine g_iloadN cx d18_13 rfl ?_
        refine g_lloadN cx d18_14 rfl ?_
        refine g_lastore cx d18_15 A_a ⟨i0, hc9⟩ (by rw [own_rl_len]; exact own_ix64 i0 hc9) g_a (fun h1 W2 AA3 => ?_)
        rw [own_rl_set] at AA3
        have KK := KK.wr W2 (Or.inl (by simp))
        have OL := OL.wr W2 g_a
        refine g_iinc cx d18_16 rfl (v := (1 : Int32)) rfl (Ls' := #[.val (.ref a), .val (.long (0 : Int64)), .second, .val (.int (i + (1 : Int32))), .val (.int (64 : Int32))]) rfl ?_
        refine g_goto cx d18_19 ?_
        exact loop (i + (1 : Int32)) _ _ cL (own_d1 i0 hc9 hfu) (own_d2 i0 hc9) (own_zs i0 hc9 hz) KK OL ‹_›
  refine g_iconst cx d18_0 (v := (0 : Int32)) rfl ?_
  refine g_istoreN cx d18_1 (Ls' := #[.val (.ref a), .val (.long (0 : Int64)), .second, .val (.int (0 : Int32)), .unset]) rfl ?_
  refine g_aloadN cx d18_2 rfl rfl ?_
  refine g_arraylength cx d18_3 A_a.1 ?_
  refine g_istore cx d18_4 (Ls' := #[.val (.ref a), .val (.long (0 : Int64)), .second, .val (.int (0 : Int32)), .val (.int (64 : Int32))]) rfl ?_
  exact loop 64 (0 : Int32) h0 f0 cL (by decide) (by decide) (fun j hj => absurd hj (Nat.not_lt_zero _)) (Keep.refl h0 [a]) OL A_a
theorem own_zF {i : Int32} {F : Nat → Nat → Int64} (i0 : ¬ i < (0 : Int32)) (i1 : i < (58 : Int32)) (hz : ∀ j, j < i.toNatClampNeg → ∀ q, F j q = 0) : ∀ j, j < (i + (1 : Int32)).toNatClampNeg → ∀ q, (fun k => if k = i.toNatClampNeg then (fun _ => (0 : Int64)) else F k) j q = 0 := by
  intro j hj q0
  have h1 : ¬ i.toInt < (0 : Int32).toInt := fun z => i0 (Int32.lt_iff_toInt_lt.mpr z)
  have h2 := Int32.lt_iff_toInt_lt.mp i1
  have e1 : (58 : Int32).toInt = 58 := rfl
  have e0 : (0 : Int32).toInt = 0 := rfl
  have e2 : (1 : Int32).toInt = 1 := rfl
  have w1 := c_iadd i (1 : Int32)
  have w2 := rng32 (i + (1 : Int32))
  simp only [Int32.toNatClampNeg] at hj
  by_cases q : j = i.toNatClampNeg
  · simp [q]
  · simp only [if_neg q]
    refine hz j ?_ q0
    simp only [Int32.toNatClampNeg] at q ⊢
    omega
theorem own_zN {i : Int32} {F : Nat → Nat → Int64} (i0 : ¬ i < (0 : Int32)) (i1 : i < (58 : Int32)) (hz : ∀ j, j < i.toNatClampNeg → ∀ q, F j q = 0) (hi : ∀ q, F i.toNatClampNeg q = 0) : ∀ j, j < (i + (1 : Int32)).toNatClampNeg → ∀ q, F j q = 0 := by
  intro j hj q0
  have := own_zF i0 i1 hz j hj q0
  by_cases q : j = i.toNatClampNeg
  · rw [q]; exact hi q0
  · simpa [q] using this
theorem own_zA {Z : State} {h : Heap} {H bk : Addr} {ws : List Addr} {vs : List Value} {i : Int32} {F : Nat → Nat → Int64} (i0 : ¬ i < (0 : Int32)) (i1 : ¬ i < (58 : Int32)) (hz : ∀ j, j < i.toNatClampNeg → ∀ q, F j q = 0) (I : own_In Z h H bk ws vs F) : own_In Z h H bk ws vs (fun _ _ => 0) := fun j hj => by
  have h2 : ¬ i.toInt < (58 : Int32).toInt := fun z => i1 (Int32.lt_iff_toInt_lt.mpr z)
  have e1 : (58 : Int32).toInt = 58 := rfl
  have hF : F j = fun _ => 0 := funext fun q => hz j (by simp only [Int32.toNatClampNeg]; omega) q
  have := I j hj
  rw [hF] at this
  exact this
theorem own_d1' {i : Int32} {fu : Nat} (i0 : ¬ i < (0 : Int32)) (i1 : i < (58 : Int32)) (q : 58 - i.toInt ≤ ((fu + 1 : Nat) : Int)) : 58 - (i + (1 : Int32)).toInt ≤ (fu : Nat) := by
  have w1 := c_iadd i (1 : Int32)
  have w2 := rng32 (i + (1 : Int32))
  have z1 : (1 : Int32).toInt = 1 := rfl
  have y1 := Int32.lt_iff_toInt_lt.mp i1
  have y0 : ¬ i.toInt < (0 : Int32).toInt := fun z => i0 (Int32.lt_iff_toInt_lt.mpr z)
  have z0 : (0 : Int32).toInt = 0 := rfl
  have e64 : (58 : Int32).toInt = 58 := rfl
  omega
theorem own_d2' {i : Int32} (i0 : ¬ i < (0 : Int32)) (i1 : i < (58 : Int32)) : ¬ (i + (1 : Int32)) < (0 : Int32) := fun z => by
  have w1 := c_iadd i (1 : Int32)
  have w2 := rng32 (i + (1 : Int32))
  have z1 : (1 : Int32).toInt = 1 := rfl
  have y1 := Int32.lt_iff_toInt_lt.mp i1
  have y0 : ¬ i.toInt < (0 : Int32).toInt := fun z => i0 (Int32.lt_iff_toInt_lt.mpr z)
  have z0 : (0 : Int32).toInt = 0 := rfl
  have y2 := Int32.lt_iff_toInt_lt.mp z
  have e64 : (58 : Int32).toInt = 58 := rfl
  omega
theorem d3_10 : Dc prog_19_method_4_code 10 (.iload_n 3) 1 11 := ⟨by decide +kernel, rfl⟩
theorem d3_11 : Dc prog_19_method_4_code 11 (.iload_n 2) 1 12 := ⟨by decide +kernel, rfl⟩
theorem d3_12 : Bi prog_19_method_4_code 12 (Instr.if_icmp .ge) 37 15 := ⟨25, by decide +kernel, by decide, by decide, rfl⟩
theorem d3_37 : Dc prog_19_method_4_code 37 (.aload_n 0) 1 38 := ⟨by decide +kernel, rfl⟩
theorem d3_38 : Dc prog_19_method_4_code 38 (.lconst 0) 1 39 := ⟨by decide +kernel, rfl⟩
theorem d3_39 : Dc prog_19_method_4_code 39 (.putfield 31) 3 42 := ⟨by decide +kernel, rfl⟩
theorem d3_42 : Dc prog_19_method_4_code 42 (.aload_n 0) 1 43 := ⟨by decide +kernel, rfl⟩
theorem d3_43 : Dc prog_19_method_4_code 43 (.lconst 0) 1 44 := ⟨by decide +kernel, rfl⟩
theorem d3_44 : Dc prog_19_method_4_code 44 (.putfield 34) 3 47 := ⟨by decide +kernel, rfl⟩
theorem d3_47 : Dc prog_19_method_4_code 47 (.aload_n 0) 1 48 := ⟨by decide +kernel, rfl⟩
theorem d3_48 : Dc prog_19_method_4_code 48 (.ldc2_w 17) 3 51 := ⟨by decide +kernel, rfl⟩
theorem d3_51 : Dc prog_19_method_4_code 51 (.putfield 19) 3 54 := ⟨by decide +kernel, rfl⟩
theorem d3_54 : Dc prog_19_method_4_code 54 (.aload_n 0) 1 55 := ⟨by decide +kernel, rfl⟩
theorem d3_55 : Dc prog_19_method_4_code 55 (.lconst 0) 1 56 := ⟨by decide +kernel, rfl⟩
theorem d3_56 : Dc prog_19_method_4_code 56 (.putfield 42) 3 59 := ⟨by decide +kernel, rfl⟩
theorem d3_59 : Dc prog_19_method_4_code 59 (.return_) 1 60 := ⟨by decide +kernel, rfl⟩
theorem d3_15 : Dc prog_19_method_4_code 15 (.aload_n 1) 1 16 := ⟨by decide +kernel, rfl⟩
theorem d3_16 : Dc prog_19_method_4_code 16 (.iload_n 3) 1 17 := ⟨by decide +kernel, rfl⟩
theorem d3_17 : Dc prog_19_method_4_code 17 (.aaload) 1 18 := ⟨by decide +kernel, rfl⟩
theorem d3_18 : Dc prog_19_method_4_code 18 (.astore 4) 2 20 := ⟨by decide +kernel, rfl⟩
theorem d3_20 : Dc prog_19_method_4_code 20 (.aload 4) 2 22 := ⟨by decide +kernel, rfl⟩
theorem d3_22 : Bi prog_19_method_4_code 22 (Instr.ifnull) 31 25 := ⟨9, by decide +kernel, by decide, by decide, rfl⟩
theorem d3_31 : Dc prog_19_method_4_code 31 (.iinc 3 1) 3 34 := ⟨by decide +kernel, rfl⟩
theorem d3_34 : Bi prog_19_method_4_code 34 (Instr.goto) 10 37 := ⟨(-24), by decide +kernel, by decide, by decide, rfl⟩
theorem d3_25 : Dc prog_19_method_4_code 25 (.aload 4) 2 27 := ⟨by decide +kernel, rfl⟩
theorem d3_27 : Dc prog_19_method_4_code 27 (.lconst 0) 1 28 := ⟨by decide +kernel, rfl⟩
theorem pd_5 : parseMethodDescriptor "([JJ)V" = some ⟨[(.array .long), .long], none⟩ := by decide +kernel
theorem d3_28 : Dc prog_19_method_4_code 28 (.invokestatic 50) 3 31 := ⟨by decide +kernel, rfl⟩
theorem d3_0 : Dc prog_19_method_4_code 0 (.aload_n 0) 1 1 := ⟨by decide +kernel, rfl⟩
theorem d3_1 : Dc prog_19_method_4_code 1 (.getfield 13) 3 4 := ⟨by decide +kernel, rfl⟩
theorem d3_4 : Dc prog_19_method_4_code 4 (.astore_n 1) 1 5 := ⟨by decide +kernel, rfl⟩
theorem d3_5 : Dc prog_19_method_4_code 5 (.aload_n 1) 1 6 := ⟨by decide +kernel, rfl⟩
theorem d3_6 : Dc prog_19_method_4_code 6 (.arraylength) 1 7 := ⟨by decide +kernel, rfl⟩
theorem d3_7 : Dc prog_19_method_4_code 7 (.istore_n 2) 1 8 := ⟨by decide +kernel, rfl⟩
theorem d3_8 : Dc prog_19_method_4_code 8 (.iconst 0) 1 9 := ⟨by decide +kernel, rfl⟩
theorem d3_9 : Dc prog_19_method_4_code 9 (.istore_n 3) 1 10 := ⟨by decide +kernel, rfl⟩
theorem pn_rmclr : plainName "com/example/oswego/oswego/RunTimeHistogram" = true := by first | (simp [plainName, overriddenIn]; done) | decide +kernel
set_option maxRecDepth 65536 in
set_option maxHeartbeats 40000000 in
theorem rmclr (l : Launch) (Z : State) (a0 : Array Value) (hw : ∀ d ∈ tables_1, d.before a0 Z = true) (H : Addr) (ws : List Addr) (F : Nat → Nat → Int64) (mn ct sm mx : Int64) (h0 : Heap) (HH : own_H Z h0 H ws F mn ct sm mx) (OL : Old Z Z.heap.size h0) :
    Met l Z (⟨"com/example/oswego/oswego/RunTimeHistogram", "clear", "()V"⟩ : MethodName) prog_19_method_4_code 5 none ({ frames := 1, cells := 0, slots := 0, locals := 16 } : Room) #[(.ref H)] h0 (fun v h' => v = none ∧ Old Z Z.heap.size h' ∧ Keep h0 h' ws ∧ own_H Z h' H ws (fun _ _ => 0) (9223372036854775807 : Int64) (0 : Int64) (0 : Int64) (0 : Int64)) := by
  refine met_of (Ls := #[.val (.ref H), .unset, .unset, .unset, .unset]) (plainFor_of_name pn_rmclr) (fun m => by first | (simp [entryFrame, mkF, argsToLocals, Value.category]; done) | rfl) (fun p e s m below meth c cx => ?_)
  obtain ⟨bk, cK, vs, g_H, g_bk, ne_H_bk, MH, MB, O_H, A_bk, OV_bk, hlen, JI, DI⟩ := HH
  have kg_H : H ∈ ws ∨ h0.size ≤ H := Or.inl MH
  have loop : ∀ (fu : Nat) (i : Int32) (h : Heap) (F : Nat → Nat → Int64) (l4 : Slot), (l4 = .unset ∨ l4 = .val .null ∨ ∃ ab, l4 = .val (.ref ab)) → 58 - i.toInt ≤ (fu : Nat) → ¬ i < (0 : Int32) → (∀ j, j < i.toNatClampNeg → ∀ q, F j q = 0) → Old Z Z.heap.size h → Keep h0 h ws → ObH Z h H (.ref bk) (.long mn) (.long ct) (.long sm) (.long mx) → Arx Z h bk cK (.array .long) (58 : Int32) vs .null "[[J" → own_In Z h H bk ws vs F → G p l e ({ frames := 1, cells := 0, slots := 0, locals := 16 } : Room) s m #[.ref H] below meth c Z.heap.size (fun v h' => v = none ∧ Old Z Z.heap.size h' ∧ Keep h0 h' ws ∧ own_H Z h' H ws (fun _ _ => 0) (9223372036854775807 : Int64) (0 : Int64) (0 : Int64) (0 : Int64)) h 0 0 10 #[.val (.ref H), .val (.ref bk), .val (.int (58 : Int32)), .val (.int i), l4] [] := by
    intro fu
    induction fu with
    | zero =>
      intro i h F l4 hl4 hfu i0 hz OL KK O_H A_bk JI
      have i1 : ¬ i < (58 : Int32) := fun z => by have := Int32.lt_iff_toInt_lt.mp z; have e1 : (58 : Int32).toInt = 58 := rfl; omega
      rcases hl4 with rfl | rfl | ⟨ab, rfl⟩
      · refine g_iloadN cx d3_10 rfl ?_
        refine g_iloadN cx d3_11 rfl ?_
        refine g_icmp_ge cx d3_12 (fun hc12 => ?_) (fun q => absurd q (fun q => i1 q))
        refine g_aloadN cx d3_37 rfl rfl ?_
        refine g_lconst cx d3_38 (v := (0 : Int64)) rfl ?_
        refine g_putF cx d3_39 (host := "") (Or.inl (hw _ (List.mem_of_getElem? (i := 23) rfl))) Via.refl O_H.2.2.2.1 O_H.1 (Or.inl (hw _ (List.mem_of_getElem? (i := 24) rfl))) (hw _ (List.mem_of_getElem? (i := 3) rfl)) (ty := .long) (by decide) rfl rfl g_H (fun h1 W2 => ?_)
        have O_H := O_H.put3 hw W2
        have A_bk := A_bk.other W2 (Ne.symm ne_H_bk)
        have OL := OL.wr W2 g_H
        have JI := JI.wrH W2
        have KK := KK.wr W2 kg_H
        refine g_aloadN cx d3_42 rfl rfl ?_
        refine g_lconst cx d3_43 (v := (0 : Int64)) rfl ?_
        refine g_putF cx d3_44 (host := "") (Or.inl (hw _ (List.mem_of_getElem? (i := 25) rfl))) Via.refl O_H.2.2.2.2.1 O_H.1 (Or.inl (hw _ (List.mem_of_getElem? (i := 26) rfl))) (hw _ (List.mem_of_getElem? (i := 3) rfl)) (ty := .long) (by decide) rfl rfl g_H (fun h3 W4 => ?_)
        have O_H := O_H.put4 hw W4
        have A_bk := A_bk.other W4 (Ne.symm ne_H_bk)
        have OL := OL.wr W4 g_H
        have JI := JI.wrH W4
        have KK := KK.wr W4 kg_H
        refine g_aloadN cx d3_47 rfl rfl ?_
        refine g_ldcJ cx d3_48 (hw _ (List.mem_of_getElem? (i := 15) rfl)) ?_
        refine g_putF cx d3_51 (host := "") (Or.inl (hw _ (List.mem_of_getElem? (i := 16) rfl))) Via.refl O_H.2.2.1 O_H.1 (Or.inl (hw _ (List.mem_of_getElem? (i := 17) rfl))) (hw _ (List.mem_of_getElem? (i := 3) rfl)) (ty := .long) (by decide) rfl rfl g_H (fun h5 W6 => ?_)
        have O_H := O_H.put2 hw W6
        have A_bk := A_bk.other W6 (Ne.symm ne_H_bk)
        have OL := OL.wr W6 g_H
        have JI := JI.wrH W6
        have KK := KK.wr W6 kg_H
        refine g_aloadN cx d3_54 rfl rfl ?_
        refine g_lconst cx d3_55 (v := (0 : Int64)) rfl ?_
        refine g_putF cx d3_56 (host := "") (Or.inl (hw _ (List.mem_of_getElem? (i := 27) rfl))) Via.refl O_H.2.2.2.2.2 O_H.1 (Or.inl (hw _ (List.mem_of_getElem? (i := 28) rfl))) (hw _ (List.mem_of_getElem? (i := 3) rfl)) (ty := .long) (by decide) rfl rfl g_H (fun h7 W8 => ?_)
        have O_H := O_H.put5 hw W8
        have A_bk := A_bk.other W8 (Ne.symm ne_H_bk)
        have OL := OL.wr W8 g_H
        have JI := JI.wrH W8
        have KK := KK.wr W8 kg_H
        refine g_retV cx d3_59 rfl (by decide) (by decide) ?_
        refine ⟨rfl, OL, KK, bk, cK, vs, g_H, g_bk, ne_H_bk, MH, MB, O_H, A_bk, OV_bk, hlen, own_zA i0 hc12 hz JI, DI⟩
      · refine g_iloadN cx d3_10 rfl ?_
        refine g_iloadN cx d3_11 rfl ?_
        refine g_icmp_ge cx d3_12 (fun hc12 => ?_) (fun q => absurd q (fun q => i1 q))
        refine g_aloadN cx d3_37 rfl rfl ?_
        refine g_lconst cx d3_38 (v := (0 : Int64)) rfl ?_
        refine g_putF cx d3_39 (host := "") (Or.inl (hw _ (List.mem_of_getElem? (i := 23) rfl))) Via.refl O_H.2.2.2.1 O_H.1 (Or.inl (hw _ (List.mem_of_getElem? (i := 24) rfl))) (hw _ (List.mem_of_getElem? (i := 3) rfl)) (ty := .long) (by decide) rfl rfl g_H (fun h9 W10 => ?_)
        have O_H := O_H.put3 hw W10
        have A_bk := A_bk.other W10 (Ne.symm ne_H_bk)
        have OL := OL.wr W10 g_H
        have JI := JI.wrH W10
        have KK := KK.wr W10 kg_H
        refine g_aloadN cx d3_42 rfl rfl ?_
        refine g_lconst cx d3_43 (v := (0 : Int64)) rfl ?_
        refine g_putF cx d3_44 (host := "") (Or.inl (hw _ (List.mem_of_getElem? (i := 25) rfl))) Via.refl O_H.2.2.2.2.1 O_H.1 (Or.inl (hw _ (List.mem_of_getElem? (i := 26) rfl))) (hw _ (List.mem_of_getElem? (i := 3) rfl)) (ty := .long) (by decide) rfl rfl g_H (fun h11 W12 => ?_)
        have O_H := O_H.put4 hw W12
        have A_bk := A_bk.other W12 (Ne.symm ne_H_bk)
        have OL := OL.wr W12 g_H
        have JI := JI.wrH W12
        have KK := KK.wr W12 kg_H
        refine g_aloadN cx d3_47 rfl rfl ?_
        refine g_ldcJ cx d3_48 (hw _ (List.mem_of_getElem? (i := 15) rfl)) ?_
        refine g_putF cx d3_51 (host := "") (Or.inl (hw _ (List.mem_of_getElem? (i := 16) rfl))) Via.refl O_H.2.2.1 O_H.1 (Or.inl (hw _ (List.mem_of_getElem? (i := 17) rfl))) (hw _ (List.mem_of_getElem? (i := 3) rfl)) (ty := .long) (by decide) rfl rfl g_H (fun h13 W14 => ?_)
        have O_H := O_H.put2 hw W14
        have A_bk := A_bk.other W14 (Ne.symm ne_H_bk)
        have OL := OL.wr W14 g_H
        have JI := JI.wrH W14
        have KK := KK.wr W14 kg_H
        refine g_aloadN cx d3_54 rfl rfl ?_
        refine g_lconst cx d3_55 (v := (0 : Int64)) rfl ?_
        refine g_putF cx d3_56 (host := "") (Or.inl (hw _ (List.mem_of_getElem? (i := 27) rfl))) Via.refl O_H.2.2.2.2.2 O_H.1 (Or.inl (hw _ (List.mem_of_getElem? (i := 28) rfl))) (hw _ (List.mem_of_getElem? (i := 3) rfl)) (ty := .long) (by decide) rfl rfl g_H (fun h15 W16 => ?_)
        have O_H := O_H.put5 hw W16
        have A_bk := A_bk.other W16 (Ne.symm ne_H_bk)
        have OL := OL.wr W16 g_H
        have JI := JI.wrH W16
        have KK := KK.wr W16 kg_H
        refine g_retV cx d3_59 rfl (by decide) (by decide) ?_
        refine ⟨rfl, OL, KK, bk, cK, vs, g_H, g_bk, ne_H_bk, MH, MB, O_H, A_bk, OV_bk, hlen, own_zA i0 hc12 hz JI, DI⟩
      · refine g_iloadN cx d3_10 rfl ?_
        refine g_iloadN cx d3_11 rfl ?_
        refine g_icmp_ge cx d3_12 (fun hc12 => ?_) (fun q => absurd q (fun q => i1 q))
        refine g_aloadN cx d3_37 rfl rfl ?_
        refine g_lconst cx d3_38 (v := (0 : Int64)) rfl ?_
        refine g_putF cx d3_39 (host := "") (Or.inl (hw _ (List.mem_of_getElem? (i := 23) rfl))) Via.refl O_H.2.2.2.1 O_H.1 (Or.inl (hw _ (List.mem_of_getElem? (i := 24) rfl))) (hw _ (List.mem_of_getElem? (i := 3) rfl)) (ty := .long) (by decide) rfl rfl g_H (fun h17 W18 => ?_)
        have O_H := O_H.put3 hw W18
        have A_bk := A_bk.other W18 (Ne.symm ne_H_bk)
        have OL := OL.wr W18 g_H
        have JI := JI.wrH W18
        have KK := KK.wr W18 kg_H
        refine g_aloadN cx d3_42 rfl rfl ?_
        refine g_lconst cx d3_43 (v := (0 : Int64)) rfl ?_
        refine g_putF cx d3_44 (host := "") (Or.inl (hw _ (List.mem_of_getElem? (i := 25) rfl))) Via.refl O_H.2.2.2.2.1 O_H.1 (Or.inl (hw _ (List.mem_of_getElem? (i := 26) rfl))) (hw _ (List.mem_of_getElem? (i := 3) rfl)) (ty := .long) (by decide) rfl rfl g_H (fun h19 W20 => ?_)
        have O_H := O_H.put4 hw W20
        have A_bk := A_bk.other W20 (Ne.symm ne_H_bk)
        have OL := OL.wr W20 g_H
        have JI := JI.wrH W20
        have KK := KK.wr W20 kg_H
        refine g_aloadN cx d3_47 rfl rfl ?_
        refine g_ldcJ cx d3_48 (hw _ (List.mem_of_getElem? (i := 15) rfl)) ?_
        refine g_putF cx d3_51 (host := "") (Or.inl (hw _ (List.mem_of_getElem? (i := 16) rfl))) Via.refl O_H.2.2.1 O_H.1 (Or.inl (hw _ (List.mem_of_getElem? (i := 17) rfl))) (hw _ (List.mem_of_getElem? (i := 3) rfl)) (ty := .long) (by decide) rfl rfl g_H (fun h21 W22 => ?_)
        have O_H := O_H.put2 hw W22
        have A_bk := A_bk.other W22 (Ne.symm ne_H_bk)
        have OL := OL.wr W22 g_H
        have JI := JI.wrH W22
        have KK := KK.wr W22 kg_H
        refine g_aloadN cx d3_54 rfl rfl ?_
        refine g_lconst cx d3_55 (v := (0 : Int64)) rfl ?_
        refine g_putF cx d3_56 (host := "") (Or.inl (hw _ (List.mem_of_getElem? (i := 27) rfl))) Via.refl O_H.2.2.2.2.2 O_H.1 (Or.inl (hw _ (List.mem_of_getElem? (i := 28) rfl))) (hw _ (List.mem_of_getElem? (i := 3) rfl)) (ty := .long) (by decide) rfl rfl g_H (fun h23 W24 => ?_)
        have O_H := O_H.put5 hw W24
        have A_bk := A_bk.other W24 (Ne.symm ne_H_bk)
        have OL := OL.wr W24 g_H
        have JI := JI.wrH W24
        have KK := KK.wr W24 kg_H
        refine g_retV cx d3_59 rfl (by decide) (by decide) ?_
        refine ⟨rfl, OL, KK, bk, cK, vs, g_H, g_bk, ne_H_bk, MH, MB, O_H, A_bk, OV_bk, hlen, own_zA i0 hc12 hz JI, DI⟩
    | succ fu ih =>
      intro i h F l4 hl4 hfu i0 hz OL KK O_H A_bk JI
      rcases hl4 with rfl | rfl | ⟨ab, rfl⟩
      · refine g_iloadN cx d3_10 rfl ?_
        refine g_iloadN cx d3_11 rfl ?_
        refine g_icmp_ge cx d3_12 (fun hc12 => ?_) (fun hc12 => ?_)
        · refine g_aloadN cx d3_37 rfl rfl ?_
          refine g_lconst cx d3_38 (v := (0 : Int64)) rfl ?_
          refine g_putF cx d3_39 (host := "") (Or.inl (hw _ (List.mem_of_getElem? (i := 23) rfl))) Via.refl O_H.2.2.2.1 O_H.1 (Or.inl (hw _ (List.mem_of_getElem? (i := 24) rfl))) (hw _ (List.mem_of_getElem? (i := 3) rfl)) (ty := .long) (by decide) rfl rfl g_H (fun h1 W2 => ?_)
          have O_H := O_H.put3 hw W2
          have A_bk := A_bk.other W2 (Ne.symm ne_H_bk)
          have OL := OL.wr W2 g_H
          have JI := JI.wrH W2
          have KK := KK.wr W2 kg_H
          refine g_aloadN cx d3_42 rfl rfl ?_
          refine g_lconst cx d3_43 (v := (0 : Int64)) rfl ?_
          refine g_putF cx d3_44 (host := "") (Or.inl (hw _ (List.mem_of_getElem? (i := 25) rfl))) Via.refl O_H.2.2.2.2.1 O_H.1 (Or.inl (hw _ (List.mem_of_getElem? (i := 26) rfl))) (hw _ (List.mem_of_getElem? (i := 3) rfl)) (ty := .long) (by decide) rfl rfl g_H (fun h3 W4 => ?_)
          have O_H := O_H.put4 hw W4
          have A_bk := A_bk.other W4 (Ne.symm ne_H_bk)
          have OL := OL.wr W4 g_H
          have JI := JI.wrH W4
          have KK := KK.wr W4 kg_H
          refine g_aloadN cx d3_47 rfl rfl ?_
          refine g_ldcJ cx d3_48 (hw _ (List.mem_of_getElem? (i := 15) rfl)) ?_
          refine g_putF cx d3_51 (host := "") (Or.inl (hw _ (List.mem_of_getElem? (i := 16) rfl))) Via.refl O_H.2.2.1 O_H.1 (Or.inl (hw _ (List.mem_of_getElem? (i := 17) rfl))) (hw _ (List.mem_of_getElem? (i := 3) rfl)) (ty := .long) (by decide) rfl rfl g_H (fun h5 W6 => ?_)
          have O_H := O_H.put2 hw W6
          have A_bk := A_bk.other W6 (Ne.symm ne_H_bk)
          have OL := OL.wr W6 g_H
          have JI := JI.wrH W6
          have KK := KK.wr W6 kg_H
          refine g_aloadN cx d3_54 rfl rfl ?_
          refine g_lconst cx d3_55 (v := (0 : Int64)) rfl ?_
          refine g_putF cx d3_56 (host := "") (Or.inl (hw _ (List.mem_of_getElem? (i := 27) rfl))) Via.refl O_H.2.2.2.2.2 O_H.1 (Or.inl (hw _ (List.mem_of_getElem? (i := 28) rfl))) (hw _ (List.mem_of_getElem? (i := 3) rfl)) (ty := .long) (by decide) rfl rfl g_H (fun h7 W8 => ?_)
          have O_H := O_H.put5 hw W8
          have A_bk := A_bk.other W8 (Ne.symm ne_H_bk)
          have OL := OL.wr W8 g_H
          have JI := JI.wrH W8
          have KK := KK.wr W8 kg_H
          refine g_retV cx d3_59 rfl (by decide) (by decide) ?_
          refine ⟨rfl, OL, KK, bk, cK, vs, g_H, g_bk, ne_H_bk, MH, MB, O_H, A_bk, OV_bk, hlen, own_zA i0 hc12 hz JI, DI⟩
        · refine g_aloadN cx d3_15 rfl rfl ?_
          refine g_iloadN cx d3_16 rfl ?_
          rcases JI _ (own_ix i0 hc12) with ⟨hv, hzz⟩ | ⟨aa, hv, ⟨cL, A_aa⟩, g_aa, nb, nh, hm⟩
          · refine g_aaload cx d3_17 A_bk.1 rfl ⟨i0, hc12⟩ (v := .null) hv ?_
            refine g_astore cx d3_18 rfl (Ls' := #[.val (.ref H), .val (.ref bk), .val (.int (58 : Int32)), .val (.int i), .val .null]) rfl ?_
            refine g_aload cx d3_20 rfl rfl ?_
            refine g_ifnull_null cx d3_22 ?_
            refine g_iinc cx d3_31 rfl (v := (1 : Int32)) rfl (Ls' := #[.val (.ref H), .val (.ref bk), .val (.int (58 : Int32)), .val (.int (i + (1 : Int32))), .val .null]) rfl ?_
            refine g_goto cx d3_34 ?_
            exact ih (i + (1 : Int32)) _ _ (.val .null) (Or.inr (Or.inl rfl)) (own_d1' i0 hc12 hfu) (own_d2' i0 hc12) (own_zN i0 hc12 hz hzz) OL KK O_H A_bk JI
          · refine g_aaload cx d3_17 A_bk.1 rfl ⟨i0, hc12⟩ (v := .ref aa) hv ?_
            refine g_astore cx d3_18 rfl (Ls' := #[.val (.ref H), .val (.ref bk), .val (.int (58 : Int32)), .val (.int i), .val (.ref aa)]) rfl ?_
            refine g_aload cx d3_20 rfl rfl ?_
            refine g_ifnull_ref cx d3_22 ?_
            refine g_aload cx d3_25 rfl rfl ?_
            refine g_lconst cx d3_27 (v := (0 : Int64)) rfl ?_
            refine g_static cx (y := (⟨"java/util/Arrays", "fill", "([JJ)V"⟩ : MethodName)) d3_28 (hw _ (List.mem_of_getElem? (i := 94) rfl)) (hw _ (List.mem_of_getElem? (i := 95) rfl)) (hw _ (List.mem_of_getElem? (i := 96) rfl)) (hw _ (List.mem_of_getElem? (i := 97) rfl)) (by decide) (bytes := jdk_65_method_101_code) (maxL' := 5) (M := (rmfil l Z a0 hw aa _ cL _ A_aa g_aa OL)) rfl (lenOf pd_5 rfl) (by decide) (W := 0) (Nat.le_of_eq rfl) (by decide) (k' := 0) (n' := 0) rfl rfl (by decide) (by decide) (argsL := [(.ref aa), (.long (0 : Int64))]) (rest := []) rfl (fun v10 h9 q11 => ?_)
            obtain ⟨rfl, KF, OL, LF⟩ := q11
            have O_H := O_H.keep KF (ninS nh nin0)
            have A_bk := A_bk.keep KF (ninS nb nin0)
            have JI := JI.setL DI KF (own_ix i0 hc12) hv LF
            have KK := KK.trans KF (allS (P := fun z => z ∈ ws ∨ _ ≤ z) (Or.inl hm) all0)
            refine G.cast (st' := []) ?_ rfl
            refine g_iinc cx d3_31 rfl (v := (1 : Int32)) rfl (Ls' := #[.val (.ref H), .val (.ref bk), .val (.int (58 : Int32)), .val (.int (i + (1 : Int32))), .val (.ref aa)]) rfl ?_
            refine g_goto cx d3_34 ?_
            exact ih (i + (1 : Int32)) _ _ (.val (.ref aa)) (Or.inr (Or.inr ⟨aa, rfl⟩)) (own_d1' i0 hc12 hfu) (own_d2' i0 hc12) (own_zF i0 hc12 hz) OL KK O_H A_bk JI
      · refine g_iloadN cx d3_10 rfl ?_
        refine g_iloadN cx d3_11 rfl ?_
        refine g_icmp_ge cx d3_12 (fun hc12 => ?_) (fun hc12 => ?_)
        · refine g_aloadN cx d3_37 rfl rfl ?_
          refine g_lconst cx d3_38 (v := (0 : Int64)) rfl ?_
          refine g_putF cx d3_39 (host := "") (Or.inl (hw _ (List.mem_of_getElem? (i := 23) rfl))) Via.refl O_H.2.2.2.1 O_H.1 (Or.inl (hw _ (List.mem_of_getElem? (i := 24) rfl))) (hw _ (List.mem_of_getElem? (i := 3) rfl)) (ty := .long) (by decide) rfl rfl g_H (fun h12 W13 => ?_)
          have O_H := O_H.put3 hw W13
          have A_bk := A_bk.other W13 (Ne.symm ne_H_bk)
          have OL := OL.wr W13 g_H
          have JI := JI.wrH W13
          have KK := KK.wr W13 kg_H
          refine g_aloadN cx d3_42 rfl rfl ?_
          refine g_lconst cx d3_43 (v := (0 : Int64)) rfl ?_
          refine g_putF cx d3_44 (host := "") (Or.inl (hw _ (List.mem_of_getElem? (i := 25) rfl))) Via.refl O_H.2.2.2.2.1 O_H.1 (Or.inl (hw _ (List.mem_of_getElem? (i := 26) rfl))) (hw _ (List.mem_of_getElem? (i := 3) rfl)) (ty := .long) (by decide) rfl rfl g_H (fun h14 W15 => ?_)
          have O_H := O_H.put4 hw W15
          have A_bk := A_bk.other W15 (Ne.symm ne_H_bk)
          have OL := OL.wr W15 g_H
          have JI := JI.wrH W15
          have KK := KK.wr W15 kg_H
          refine g_aloadN cx d3_47 rfl rfl ?_
          refine g_ldcJ cx d3_48 (hw _ (List.mem_of_getElem? (i := 15) rfl)) ?_
          refine g_putF cx d3_51 (host := "") (Or.inl (hw _ (List.mem_of_getElem? (i := 16) rfl))) Via.refl O_H.2.2.1 O_H.1 (Or.inl (hw _ (List.mem_of_getElem? (i := 17) rfl))) (hw _ (List.mem_of_getElem? (i := 3) rfl)) (ty := .long) (by decide) rfl rfl g_H (fun h16 W17 => ?_)
          have O_H := O_H.put2 hw W17
          have A_bk := A_bk.other W17 (Ne.symm ne_H_bk)
          have OL := OL.wr W17 g_H
          have JI := JI.wrH W17
          have KK := KK.wr W17 kg_H
          refine g_aloadN cx d3_54 rfl rfl ?_
          refine g_lconst cx d3_55 (v := (0 : Int64)) rfl ?_
          refine g_putF cx d3_56 (host := "") (Or.inl (hw _ (List.mem_of_getElem? (i := 27) rfl))) Via.refl O_H.2.2.2.2.2 O_H.1 (Or.inl (hw _ (List.mem_of_getElem? (i := 28) rfl))) (hw _ (List.mem_of_getElem? (i := 3) rfl)) (ty := .long) (by decide) rfl rfl g_H (fun h18 W19 => ?_)
          have O_H := O_H.put5 hw W19
          have A_bk := A_bk.other W19 (Ne.symm ne_H_bk)
          have OL := OL.wr W19 g_H
          have JI := JI.wrH W19
          have KK := KK.wr W19 kg_H
          refine g_retV cx d3_59 rfl (by decide) (by decide) ?_
          refine ⟨rfl, OL, KK, bk, cK, vs, g_H, g_bk, ne_H_bk, MH, MB, O_H, A_bk, OV_bk, hlen, own_zA i0 hc12 hz JI, DI⟩
        · refine g_aloadN cx d3_15 rfl rfl ?_
          refine g_iloadN cx d3_16 rfl ?_
          rcases JI _ (own_ix i0 hc12) with ⟨hv, hzz⟩ | ⟨aa, hv, ⟨cL, A_aa⟩, g_aa, nb, nh, hm⟩
          · refine g_aaload cx d3_17 A_bk.1 rfl ⟨i0, hc12⟩ (v := .null) hv ?_
            refine g_astore cx d3_18 rfl (Ls' := #[.val (.ref H), .val (.ref bk), .val (.int (58 : Int32)), .val (.int i), .val .null]) rfl ?_
            refine g_aload cx d3_20 rfl rfl ?_
            refine g_ifnull_null cx d3_22 ?_
            refine g_iinc cx d3_31 rfl (v := (1 : Int32)) rfl (Ls' := #[.val (.ref H), .val (.ref bk), .val (.int (58 : Int32)), .val (.int (i + (1 : Int32))), .val .null]) rfl ?_
            refine g_goto cx d3_34 ?_
            exact ih (i + (1 : Int32)) _ _ (.val .null) (Or.inr (Or.inl rfl)) (own_d1' i0 hc12 hfu) (own_d2' i0 hc12) (own_zN i0 hc12 hz hzz) OL KK O_H A_bk JI
          · refine g_aaload cx d3_17 A_bk.1 rfl ⟨i0, hc12⟩ (v := .ref aa) hv ?_
            refine g_astore cx d3_18 rfl (Ls' := #[.val (.ref H), .val (.ref bk), .val (.int (58 : Int32)), .val (.int i), .val (.ref aa)]) rfl ?_
            refine g_aload cx d3_20 rfl rfl ?_
            refine g_ifnull_ref cx d3_22 ?_
            refine g_aload cx d3_25 rfl rfl ?_
            refine g_lconst cx d3_27 (v := (0 : Int64)) rfl ?_
            refine g_static cx (y := (⟨"java/util/Arrays", "fill", "([JJ)V"⟩ : MethodName)) d3_28 (hw _ (List.mem_of_getElem? (i := 94) rfl)) (hw _ (List.mem_of_getElem? (i := 95) rfl)) (hw _ (List.mem_of_getElem? (i := 96) rfl)) (hw _ (List.mem_of_getElem? (i := 97) rfl)) (by decide) (bytes := jdk_65_method_101_code) (maxL' := 5) (M := (rmfil l Z a0 hw aa _ cL _ A_aa g_aa OL)) rfl (lenOf pd_5 rfl) (by decide) (W := 0) (Nat.le_of_eq rfl) (by decide) (k' := 0) (n' := 0) rfl rfl (by decide) (by decide) (argsL := [(.ref aa), (.long (0 : Int64))]) (rest := []) rfl (fun v21 h20 q22 => ?_)
            obtain ⟨rfl, KF, OL, LF⟩ := q22
            have O_H := O_H.keep KF (ninS nh nin0)
            have A_bk := A_bk.keep KF (ninS nb nin0)
            have JI := JI.setL DI KF (own_ix i0 hc12) hv LF
            have KK := KK.trans KF (allS (P := fun z => z ∈ ws ∨ _ ≤ z) (Or.inl hm) all0)
            refine G.cast (st' := []) ?_ rfl
            refine g_iinc cx d3_31 rfl (v := (1 : Int32)) rfl (Ls' := #[.val (.ref H), .val (.ref bk), .val (.int (58 : Int32)), .val (.int (i + (1 : Int32))), .val (.ref aa)]) rfl ?_
            refine g_goto cx d3_34 ?_
            exact ih (i + (1 : Int32)) _ _ (.val (.ref aa)) (Or.inr (Or.inr ⟨aa, rfl⟩)) (own_d1' i0 hc12 hfu) (own_d2' i0 hc12) (own_zF i0 hc12 hz) OL KK O_H A_bk JI
      · refine g_iloadN cx d3_10 rfl ?_
        refine g_iloadN cx d3_11 rfl ?_
        refine g_icmp_ge cx d3_12 (fun hc12 => ?_) (fun hc12 => ?_)
        · refine g_aloadN cx d3_37 rfl rfl ?_
          refine g_lconst cx d3_38 (v := (0 : Int64)) rfl ?_
          refine g_putF cx d3_39 (host := "") (Or.inl (hw _ (List.mem_of_getElem? (i := 23) rfl))) Via.refl O_H.2.2.2.1 O_H.1 (Or.inl (hw _ (List.mem_of_getElem? (i := 24) rfl))) (hw _ (List.mem_of_getElem? (i := 3) rfl)) (ty := .long) (by decide) rfl rfl g_H (fun h23 W24 => ?_)
          have O_H := O_H.put3 hw W24
          have A_bk := A_bk.other W24 (Ne.symm ne_H_bk)
          have OL := OL.wr W24 g_H
          have JI := JI.wrH W24
          have KK := KK.wr W24 kg_H
          refine g_aloadN cx d3_42 rfl rfl ?_
          refine g_lconst cx d3_43 (v := (0 : Int64)) rfl ?_
          refine g_putF cx d3_44 (host := "") (Or.inl (hw _ (List.mem_of_getElem? (i := 25) rfl))) Via.refl O_H.2.2.2.2.1 O_H.1 (Or.inl (hw _ (List.mem_of_getElem? (i := 26) rfl))) (hw _ (List.mem_of_getElem? (i := 3) rfl)) (ty := .long) (by decide) rfl rfl g_H (fun h25 W26 => ?_)
          have O_H := O_H.put4 hw W26
          have A_bk := A_bk.other W26 (Ne.symm ne_H_bk)
          have OL := OL.wr W26 g_H
          have JI := JI.wrH W26
          have KK := KK.wr W26 kg_H
          refine g_aloadN cx d3_47 rfl rfl ?_
          refine g_ldcJ cx d3_48 (hw _ (List.mem_of_getElem? (i := 15) rfl)) ?_
          refine g_putF cx d3_51 (host := "") (Or.inl (hw _ (List.mem_of_getElem? (i := 16) rfl))) Via.refl O_H.2.2.1 O_H.1 (Or.inl (hw _ (List.mem_of_getElem? (i := 17) rfl))) (hw _ (List.mem_of_getElem? (i := 3) rfl)) (ty := .long) (by decide) rfl rfl g_H (fun h27 W28 => ?_)
          have O_H := O_H.put2 hw W28
          have A_bk := A_bk.other W28 (Ne.symm ne_H_bk)
          have OL := OL.wr W28 g_H
          have JI := JI.wrH W28
          have KK := KK.wr W28 kg_H
          refine g_aloadN cx d3_54 rfl rfl ?_
          refine g_lconst cx d3_55 (v := (0 : Int64)) rfl ?_
          refine g_putF cx d3_56 (host := "") (Or.inl (hw _ (List.mem_of_getElem? (i := 27) rfl))) Via.refl O_H.2.2.2.2.2 O_H.1 (Or.inl (hw _ (List.mem_of_getElem? (i := 28) rfl))) (hw _ (List.mem_of_getElem? (i := 3) rfl)) (ty := .long) (by decide) rfl rfl g_H (fun h29 W30 => ?_)
          have O_H := O_H.put5 hw W30
          have A_bk := A_bk.other W30 (Ne.symm ne_H_bk)
          have OL := OL.wr W30 g_H
          have JI := JI.wrH W30
          have KK := KK.wr W30 kg_H
          refine g_retV cx d3_59 rfl (by decide) (by decide) ?_
          refine ⟨rfl, OL, KK, bk, cK, vs, g_H, g_bk, ne_H_bk, MH, MB, O_H, A_bk, OV_bk, hlen, own_zA i0 hc12 hz JI, DI⟩
        · refine g_aloadN cx d3_15 rfl rfl ?_
          refine g_iloadN cx d3_16 rfl ?_
          rcases JI _ (own_ix i0 hc12) with ⟨hv, hzz⟩ | ⟨aa, hv, ⟨cL, A_aa⟩, g_aa, nb, nh, hm⟩
          · refine g_aaload cx d3_17 A_bk.1 rfl ⟨i0, hc12⟩ (v := .null) hv ?_
            refine g_astore cx d3_18 rfl (Ls' := #[.val (.ref H), .val (.ref bk), .val (.int (58 : Int32)), .val (.int i), .val .null]) rfl ?_
            refine g_aload cx d3_20 rfl rfl ?_
            refine g_ifnull_null cx d3_22 ?_
            refine g_iinc cx d3_31 rfl (v := (1 : Int32)) rfl (Ls' := #[.val (.ref H), .val (.ref bk), .val (.int (58 : Int32)), .val (.int (i + (1 : Int32))), .val .null]) rfl ?_
            refine g_goto cx d3_34 ?_
            exact ih (i + (1 : Int32)) _ _ (.val .null) (Or.inr (Or.inl rfl)) (own_d1' i0 hc12 hfu) (own_d2' i0 hc12) (own_zN i0 hc12 hz hzz) OL KK O_H A_bk JI
          · refine g_aaload cx d3_17 A_bk.1 rfl ⟨i0, hc12⟩ (v := .ref aa) hv ?_
            refine g_astore cx d3_18 rfl (Ls' := #[.val (.ref H), .val (.ref bk), .val (.int (58 : Int32)), .val (.int i), .val (.ref aa)]) rfl ?_
            refine g_aload cx d3_20 rfl rfl ?_
            refine g_ifnull_ref cx d3_22 ?_
            refine g_aload cx d3_25 rfl rfl ?_
            refine g_lconst cx d3_27 (v := (0 : Int64)) rfl ?_
            refine g_static cx (y := (⟨"java/util/Arrays", "fill", "([JJ)V"⟩ : MethodName)) d3_28 (hw _ (List.mem_of_getElem? (i := 94) rfl)) (hw _ (List.mem_of_getElem? (i := 95) rfl)) (hw _ (List.mem_of_getElem? (i := 96) rfl)) (hw _ (List.mem_of_getElem? (i := 97) rfl)) (by decide) (bytes := jdk_65_method_101_code) (maxL' := 5) (M := (rmfil l Z a0 hw aa _ cL _ A_aa g_aa OL)) rfl (lenOf pd_5 rfl) (by decide) (W := 0) (Nat.le_of_eq rfl) (by decide) (k' := 0) (n' := 0) rfl rfl (by decide) (by decide) (argsL := [(.ref aa), (.long (0 : Int64))]) (rest := []) rfl (fun v32 h31 q33 => ?_)
            obtain ⟨rfl, KF, OL, LF⟩ := q33
            have O_H := O_H.keep KF (ninS nh nin0)
            have A_bk := A_bk.keep KF (ninS nb nin0)
            have JI := JI.setL DI KF (own_ix i0 hc12) hv LF
            have KK := KK.trans KF (allS (P := fun z => z ∈ ws ∨ _ ≤ z) (Or.inl hm) all0)
            refine G.cast (st' := []) ?_ rfl
            refine g_iinc cx d3_31 rfl (v := (1 : Int32)) rfl (Ls' := #[.val (.ref H), .val (.ref bk), .val (.int (58 : Int32)), .val (.int (i + (1 : Int32))), .val (.ref aa)]) rfl ?_
            refine g_goto cx d3_34 ?_
            exact ih (i + (1 : Int32)) _ _ (.val (.ref aa)) (Or.inr (Or.inr ⟨aa, rfl⟩)) (own_d1' i0 hc12 hfu) (own_d2' i0 hc12) (own_zF i0 hc12 hz) OL KK O_H A_bk JI
  refine g_aloadN cx d3_0 rfl rfl ?_
  refine g_getF cx d3_1 (host := "") (Or.inl (hw _ (List.mem_of_getElem? (i := 13) rfl))) Via.refl O_H.2.1 ?_
  refine g_astoreN cx d3_4 rfl (Ls' := #[.val (.ref H), .val (.ref bk), .unset, .unset, .unset]) rfl ?_
  refine g_aloadN cx d3_5 rfl rfl ?_
  refine g_arraylength cx d3_6 A_bk.1 ?_
  refine g_istoreN cx d3_7 (Ls' := #[.val (.ref H), .val (.ref bk), .val (.int (58 : Int32)), .unset, .unset]) rfl ?_
  refine g_iconst cx d3_8 (v := (0 : Int32)) rfl ?_
  refine g_istoreN cx d3_9 (Ls' := #[.val (.ref H), .val (.ref bk), .val (.int (58 : Int32)), .val (.int (0 : Int32)), .unset]) rfl ?_
  exact loop 58 (0 : Int32) h0 F .unset (Or.inl rfl) (by decide) (by decide) (fun j hj => absurd hj (Nat.not_lt_zero _)) OL (Keep.refl h0 ws) O_H A_bk JI
def own_mid (i j : Int32) : Int64 := if i = (0 : Int32) then ((((j).toInt64) <<< ((own_wb i) &&& 0x3f).toInt64) + (((1 : Int64) <<< ((own_wb i) &&& 0x3f).toInt64) / (2 : Int64))) else ((((((64 : Int32) + j)).toInt64) <<< ((own_wb i) &&& 0x3f).toInt64) + (((1 : Int64) <<< ((own_wb i) &&& 0x3f).toInt64) / (2 : Int64)))
theorem d20_0 : Dc prog_19_method_13_code 0 (.iload_n 0) 1 1 := ⟨by decide +kernel, rfl⟩
theorem d20_1 : Bi prog_19_method_13_code 1 (Instr.ifCond .ne) 8 4 := ⟨7, by decide +kernel, by decide, by decide, rfl⟩
theorem d20_8 : Dc prog_19_method_13_code 8 (.bipush 64) 2 10 := ⟨by decide +kernel, rfl⟩
theorem d20_10 : Dc prog_19_method_13_code 10 (.iload_n 1) 1 11 := ⟨by decide +kernel, rfl⟩
theorem d20_11 : Dc prog_19_method_13_code 11 (.iadd) 1 12 := ⟨by decide +kernel, rfl⟩
theorem d20_12 : Dc prog_19_method_13_code 12 (.i2l) 1 13 := ⟨by decide +kernel, rfl⟩
theorem d20_13 : Dc prog_19_method_13_code 13 (.iload_n 0) 1 14 := ⟨by decide +kernel, rfl⟩
theorem d20_14 : Dc prog_19_method_13_code 14 (.invokestatic 83) 3 17 := ⟨by decide +kernel, rfl⟩
theorem d20_17 : Dc prog_19_method_13_code 17 (.lshl) 1 18 := ⟨by decide +kernel, rfl⟩
theorem d20_18 : Dc prog_19_method_13_code 18 (.lstore_n 2) 1 19 := ⟨by decide +kernel, rfl⟩
theorem d20_19 : Dc prog_19_method_13_code 19 (.lload_n 2) 1 20 := ⟨by decide +kernel, rfl⟩
theorem d20_20 : Dc prog_19_method_13_code 20 (.lconst 1) 1 21 := ⟨by decide +kernel, rfl⟩
theorem d20_21 : Dc prog_19_method_13_code 21 (.iload_n 0) 1 22 := ⟨by decide +kernel, rfl⟩
theorem d20_22 : Dc prog_19_method_13_code 22 (.invokestatic 83) 3 25 := ⟨by decide +kernel, rfl⟩
theorem d20_25 : Dc prog_19_method_13_code 25 (.lshl) 1 26 := ⟨by decide +kernel, rfl⟩
theorem d20_26 : Dc prog_19_method_13_code 26 (.ldc2_w 87) 3 29 := ⟨by decide +kernel, rfl⟩
theorem d20_29 : Dc prog_19_method_13_code 29 (.ldiv) 1 30 := ⟨by decide +kernel, rfl⟩
theorem d20_30 : Dc prog_19_method_13_code 30 (.ladd) 1 31 := ⟨by decide +kernel, rfl⟩
theorem d20_31 : Dc prog_19_method_13_code 31 (.lreturn) 1 32 := ⟨by decide +kernel, rfl⟩
theorem d20_4 : Dc prog_19_method_13_code 4 (.iload_n 1) 1 5 := ⟨by decide +kernel, rfl⟩
theorem d20_5 : Bi prog_19_method_13_code 5 (Instr.goto) 12 8 := ⟨7, by decide +kernel, by decide, by decide, rfl⟩
theorem pn_rmmo : plainName "com/example/oswego/oswego/RunTimeHistogram" = true := by first | (simp [plainName, overriddenIn]; done) | decide +kernel
set_option maxRecDepth 65536 in
set_option maxHeartbeats 40000000 in
theorem rmmo (l : Launch) (Z : State) (a0 : Array Value) (hw : ∀ d ∈ tables_1, d.before a0 Z = true) (i j : Int32) (h0 : Heap) :
    Met l Z (⟨"com/example/oswego/oswego/RunTimeHistogram", "middleOf", "(II)J"⟩ : MethodName) prog_19_method_13_code 4 (some .long) ({ frames := 2, cells := 0, slots := 0, locals := 29 } : Room) #[(.int i), (.int j)] h0 (fun v h' => v = some (.long (own_mid i j)) ∧ h0 = h') := by
  refine met_of (Ls := #[.val (.int i), .val (.int j), .unset, .unset]) (plainFor_of_name pn_rmmo) (fun m => by first | (simp [entryFrame, mkF, argsToLocals, Value.category]; done) | rfl) (fun p e s m below meth c cx => ?_)
  refine g_iloadN cx d20_0 rfl ?_
  refine g_if_ne cx d20_1 (fun hc1 => ?_) (fun hc1 => ?_)
  · refine g_bipush cx d20_8 (v := (64 : Int32)) rfl ?_
    refine g_iloadN cx d20_10 rfl ?_
    refine g_iadd cx d20_11 ?_
    refine g_i2l cx d20_12 ?_
    refine g_iloadN cx d20_13 rfl ?_
    refine g_static cx (y := (⟨"com/example/oswego/oswego/RunTimeHistogram", "widthBits", "(I)I"⟩ : MethodName)) d20_14 (hw _ (List.mem_of_getElem? (i := 65) rfl)) (hw _ (List.mem_of_getElem? (i := 66) rfl)) (hw _ (List.mem_of_getElem? (i := 4) rfl)) (hw _ (List.mem_of_getElem? (i := 67) rfl)) (by decide) (bytes := prog_19_method_14_code) (maxL' := 1) (M := (rmwb l Z a0 hw _ _)) rfl (lenOf pd_0 rfl) (by decide) (W := 2) (Nat.le_of_eq rfl) (by decide) (k' := 0) (n' := 0) rfl rfl (by decide) (by decide) (argsL := [(.int i)]) (rest := [(.long ((((64 : Int32) + j)).toInt64))]) rfl (fun v2 h1 q3 => ?_)
    obtain ⟨rfl, rfl⟩ := q3
    refine G.cast (st' := [(.int (own_wb i)), (.long ((((64 : Int32) + j)).toInt64))]) ?_ rfl
    refine g_lshl cx d20_17 ?_
    refine g_lstoreN cx d20_18 (Ls' := #[.val (.int i), .val (.int j), .val (.long (((((64 : Int32) + j)).toInt64) <<< ((own_wb i) &&& 0x3f).toInt64)), .second]) rfl ?_
    refine g_lloadN cx d20_19 rfl ?_
    refine g_lconst cx d20_20 (v := (1 : Int64)) rfl ?_
    refine g_iloadN cx d20_21 rfl ?_
    refine g_static cx (y := (⟨"com/example/oswego/oswego/RunTimeHistogram", "widthBits", "(I)I"⟩ : MethodName)) d20_22 (hw _ (List.mem_of_getElem? (i := 65) rfl)) (hw _ (List.mem_of_getElem? (i := 66) rfl)) (hw _ (List.mem_of_getElem? (i := 4) rfl)) (hw _ (List.mem_of_getElem? (i := 67) rfl)) (by decide) (bytes := prog_19_method_14_code) (maxL' := 1) (M := (rmwb l Z a0 hw _ _)) rfl (lenOf pd_0 rfl) (by decide) (W := 4) (Nat.le_of_eq rfl) (by decide) (k' := 0) (n' := 0) rfl rfl (by decide) (by decide) (argsL := [(.int i)]) (rest := [(.long (1 : Int64)), (.long (((((64 : Int32) + j)).toInt64) <<< ((own_wb i) &&& 0x3f).toInt64))]) rfl (fun v5 h4 q6 => ?_)
    obtain ⟨rfl, rfl⟩ := q6
    refine G.cast (st' := [(.int (own_wb i)), (.long (1 : Int64)), (.long (((((64 : Int32) + j)).toInt64) <<< ((own_wb i) &&& 0x3f).toInt64))]) ?_ rfl
    refine g_lshl cx d20_25 ?_
    refine g_ldcJ cx d20_26 (hw _ (List.mem_of_getElem? (i := 105) rfl)) ?_
    refine g_ldiv cx d20_29 (by decide) ?_
    refine g_ladd cx d20_30 ?_
    refine g_retJ cx d20_31 rfl (by decide) (by decide) ?_
    exact ⟨by rw [own_mid, if_neg hc1], rfl⟩
  · refine g_iloadN cx d20_4 rfl ?_
    refine g_goto cx d20_5 ?_
    refine g_i2l cx d20_12 ?_
    refine g_iloadN cx d20_13 rfl ?_
    refine g_static cx (y := (⟨"com/example/oswego/oswego/RunTimeHistogram", "widthBits", "(I)I"⟩ : MethodName)) d20_14 (hw _ (List.mem_of_getElem? (i := 65) rfl)) (hw _ (List.mem_of_getElem? (i := 66) rfl)) (hw _ (List.mem_of_getElem? (i := 4) rfl)) (hw _ (List.mem_of_getElem? (i := 67) rfl)) (by decide) (bytes := prog_19_method_14_code) (maxL' := 1) (M := (rmwb l Z a0 hw _ _)) rfl (lenOf pd_0 rfl) (by decide) (W := 2) (Nat.le_of_eq rfl) (by decide) (k' := 0) (n' := 0) rfl rfl (by decide) (by decide) (argsL := [(.int i)]) (rest := [(.long ((j).toInt64))]) rfl (fun v8 h7 q9 => ?_)
    obtain ⟨rfl, rfl⟩ := q9
    refine G.cast (st' := [(.int (own_wb i)), (.long ((j).toInt64))]) ?_ rfl
    refine g_lshl cx d20_17 ?_
    refine g_lstoreN cx d20_18 (Ls' := #[.val (.int i), .val (.int j), .val (.long (((j).toInt64) <<< ((own_wb i) &&& 0x3f).toInt64)), .second]) rfl ?_
    refine g_lloadN cx d20_19 rfl ?_
    refine g_lconst cx d20_20 (v := (1 : Int64)) rfl ?_
    refine g_iloadN cx d20_21 rfl ?_
    refine g_static cx (y := (⟨"com/example/oswego/oswego/RunTimeHistogram", "widthBits", "(I)I"⟩ : MethodName)) d20_22 (hw _ (List.mem_of_getElem? (i := 65) rfl)) (hw _ (List.mem_of_getElem? (i := 66) rfl)) (hw _ (List.mem_of_getElem? (i := 4) rfl)) (hw _ (List.mem_of_getElem? (i := 67) rfl)) (by decide) (bytes := prog_19_method_14_code) (maxL' := 1) (M := (rmwb l Z a0 hw _ _)) rfl (lenOf pd_0 rfl) (by decide) (W := 4) (Nat.le_of_eq rfl) (by decide) (k' := 0) (n' := 0) rfl rfl (by decide) (by decide) (argsL := [(.int i)]) (rest := [(.long (1 : Int64)), (.long (((j).toInt64) <<< ((own_wb i) &&& 0x3f).toInt64))]) rfl (fun v11 h10 q12 => ?_)
    obtain ⟨rfl, rfl⟩ := q12
    refine G.cast (st' := [(.int (own_wb i)), (.long (1 : Int64)), (.long (((j).toInt64) <<< ((own_wb i) &&& 0x3f).toInt64))]) ?_ rfl
    refine g_lshl cx d20_25 ?_
    refine g_ldcJ cx d20_26 (hw _ (List.mem_of_getElem? (i := 105) rfl)) ?_
    refine g_ldiv cx d20_29 (by decide) ?_
    refine g_ladd cx d20_30 ?_
    refine g_retJ cx d20_31 rfl (by decide) (by decide) ?_
    exact ⟨by rw [own_mid, if_pos hc1], rfl⟩
def own_md (mm : Nat) : Int64 := own_mid (Int32.ofNat (mm / 64)) (Int32.ofNat (mm % 64))
theorem own_ofn {i : Int32} (i0 : ¬ i < (0 : Int32)) : Int32.ofNat i.toNatClampNeg = i := Int32.ofNat_toNatClampNeg i (Int32.not_lt.mp i0)

def own_sc (F : Nat → Nat → Int64) (k : Int64) : Nat → Nat → Int64 → Option Nat
  | 0, _, _ => none
  | t + 1, n, acc => if acc + F (n / 64) (n % 64) < k then own_sc F k t (n + 1) (acc + F (n / 64) (n % 64)) else some n
theorem own_sc_skip {F : Nat → Nat → Int64} {k acc : Int64} {i : Nat} (hF : ∀ q, F i q = 0) (ha : acc < k) : ∀ t L, t ≤ 64 → own_sc F k (L + t) (64 * (i + 1) - t) acc = own_sc F k L (64 * (i + 1)) acc
  | 0, L, _ => rfl
  | t + 1, L, h => by
    have e1 : (64 * (i + 1) - (t + 1)) / 64 = i := by omega
    have e2 : 64 * (i + 1) - (t + 1) + 1 = 64 * (i + 1) - t := by omega
    show own_sc F k ((L + t) + 1) (64 * (i + 1) - (t + 1)) acc = _
    rw [own_sc, e1, hF, Int64.add_zero, if_pos ha, e2]
    exact own_sc_skip hF ha t L (by omega)
theorem own_inc {i : Int32} (i0 : ¬ i < (0 : Int32)) (i1 : i < (64 : Int32)) : (i + (1 : Int32)).toNatClampNeg = i.toNatClampNeg + 1 := by
  have w1 := c_iadd i (1 : Int32)
  have w2 := rng32 (i + (1 : Int32))
  have z1 : (1 : Int32).toInt = 1 := rfl
  have y1 := Int32.lt_iff_toInt_lt.mp i1
  have y0 : ¬ i.toInt < (0 : Int32).toInt := fun z => i0 (Int32.lt_iff_toInt_lt.mpr z)
  have z0 : (0 : Int32).toInt = 0 := rfl
  have e64 : (64 : Int32).toInt = 64 := rfl
  simp only [Int32.toNatClampNeg]
  omega
theorem own_64 {i : Int32} (i1 : i < (58 : Int32)) : i < (64 : Int32) := by
  rw [Int32.lt_iff_toInt_lt] at i1 ⊢
  have e1 : (58 : Int32).toInt = 58 := rfl
  have e2 : (64 : Int32).toInt = 64 := rfl
  omega
section Scan
variable {F : Nat → Nat → Int64} {k acc : Int64} {i j : Int32} {mm : Nat}
theorem own_sci (i0 : ¬ i < (0 : Int32)) (h : own_sc F k (3712 - 64 * i.toNatClampNeg) (64 * i.toNatClampNeg) acc = some mm) : i < (58 : Int32) := Decidable.byContradiction fun q => by
  have h2 : ¬ i.toInt < (58 : Int32).toInt := fun z => q (Int32.lt_iff_toInt_lt.mpr z)
  have e1 : (58 : Int32).toInt = 58 := rfl
  have : 3712 - 64 * i.toNatClampNeg = 0 := by simp only [Int32.toNatClampNeg]; omega
  rw [this] at h
  cases h
theorem own_scN (i0 : ¬ i < (0 : Int32)) (i1 : i < (58 : Int32)) (hF : ∀ q, F i.toNatClampNeg q = 0) (ha : acc < k) (h : own_sc F k (3712 - 64 * i.toNatClampNeg) (64 * i.toNatClampNeg) acc = some mm) : own_sc F k (3712 - 64 * (i + (1 : Int32)).toNatClampNeg) (64 * (i + (1 : Int32)).toNatClampNeg) acc = some mm := by
  rw [own_inc i0 (own_64 i1)]
  have hi := own_ix i0 i1
  have := own_sc_skip hF ha 64 (3712 - 64 * (i.toNatClampNeg + 1)) (Nat.le_refl _)
  rw [← this, show 3712 - 64 * (i.toNatClampNeg + 1) + 64 = 3712 - 64 * i.toNatClampNeg from by omega, show 64 * (i.toNatClampNeg + 1) - 64 = 64 * i.toNatClampNeg from by omega]
  exact h
theorem own_scE (i0 : ¬ i < (0 : Int32)) (i1 : i < (58 : Int32)) (j1 : ¬ j < (64 : Int32)) (j2 : ¬ (64 : Int32) < j) (h : own_sc F k (3712 - (64 * i.toNatClampNeg + j.toNatClampNeg)) (64 * i.toNatClampNeg + j.toNatClampNeg) acc = some mm) : own_sc F k (3712 - 64 * (i + (1 : Int32)).toNatClampNeg) (64 * (i + (1 : Int32)).toNatClampNeg) acc = some mm := by
  rw [own_inc i0 (own_64 i1)]
  have h1 : ¬ j.toInt < (64 : Int32).toInt := fun z => j1 (Int32.lt_iff_toInt_lt.mpr z)
  have h2 : ¬ (64 : Int32).toInt < j.toInt := fun z => j2 (Int32.lt_iff_toInt_lt.mpr z)
  have e1 : (64 : Int32).toInt = 64 := rfl
  have e2 : j.toNatClampNeg = 64 := by simp only [Int32.toNatClampNeg]; omega
  rw [e2] at h
  rw [show 64 * (i.toNatClampNeg + 1) = 64 * i.toNatClampNeg + 64 from by omega]
  exact h
theorem own_scS (i0 : ¬ i < (0 : Int32)) (i1 : i < (58 : Int32)) (j0 : ¬ j < (0 : Int32)) (j1 : j < (64 : Int32)) (h : own_sc F k (3712 - (64 * i.toNatClampNeg + j.toNatClampNeg)) (64 * i.toNatClampNeg + j.toNatClampNeg) acc = some mm) :
    (acc + F i.toNatClampNeg j.toNatClampNeg < k → own_sc F k (3712 - (64 * i.toNatClampNeg + (j + (1 : Int32)).toNatClampNeg)) (64 * i.toNatClampNeg + (j + (1 : Int32)).toNatClampNeg) (acc + F i.toNatClampNeg j.toNatClampNeg) = some mm) ∧ (¬ acc + F i.toNatClampNeg j.toNatClampNeg < k → mm = 64 * i.toNatClampNeg + j.toNatClampNeg) := by
  rw [own_inc j0 j1]
  have hi := own_ix i0 i1
  have hj := own_ix64 j0 j1
  have e0 : 3712 - (64 * i.toNatClampNeg + j.toNatClampNeg) = (3712 - (64 * i.toNatClampNeg + (j.toNatClampNeg + 1))) + 1 := by omega
  have e1 : (64 * i.toNatClampNeg + j.toNatClampNeg) / 64 = i.toNatClampNeg := by omega
  have e2 : (64 * i.toNatClampNeg + j.toNatClampNeg) % 64 = j.toNatClampNeg := by omega
  rw [e0, own_sc, e1, e2] at h
  refine ⟨fun q => ?_, fun q => ?_⟩
  · rw [if_pos q] at h; exact h
  · rw [if_neg q] at h; exact (Option.some.inj h).symm
theorem own_j2 (j0 : ¬ j < (0 : Int32)) (j1 : j < (64 : Int32)) : ¬ (64 : Int32) < j + (1 : Int32) := fun z => by
  have w1 := c_iadd j (1 : Int32)
  have w2 := rng32 (j + (1 : Int32))
  have z1 : (1 : Int32).toInt = 1 := rfl
  have y1 := Int32.lt_iff_toInt_lt.mp j1
  have y2 := Int32.lt_iff_toInt_lt.mp z
  have e64 : (64 : Int32).toInt = 64 := rfl
  have y0 : ¬ j.toInt < (0 : Int32).toInt := fun z => j0 (Int32.lt_iff_toInt_lt.mpr z)
  have z0 : (0 : Int32).toInt = 0 := rfl
  omega
theorem own_scM (i0 : ¬ i < (0 : Int32)) (i1 : i < (58 : Int32)) (j0 : ¬ j < (0 : Int32)) (j1 : j < (64 : Int32)) (q : mm = 64 * i.toNatClampNeg + j.toNatClampNeg) : own_md mm = own_mid i j := by
  have hi := own_ix i0 i1
  have hj := own_ix64 j0 j1
  have e1 : (64 * i.toNatClampNeg + j.toNatClampNeg) / 64 = i.toNatClampNeg := by omega
  have e2 : (64 * i.toNatClampNeg + j.toNatClampNeg) % 64 = j.toNatClampNeg := by omega
  rw [own_md, q, e1, e2, own_ofn i0, own_ofn j0]
end Scan
def own_tot (F : Nat → Nat → Int64) : Nat → Nat → Int64 → Int64
  | 0, _, acc => acc
  | t + 1, n, acc => own_tot F t (n + 1) (acc + F (n / 64) (n % 64))
theorem own_sc_none {F : Nat → Nat → Int64} {k : Int64} : ∀ t n acc, acc < k → own_sc F k t n acc = none → own_tot F t n acc < k
  | 0, _, _, ha, _ => ha
  | t + 1, n, acc, ha, h => by
    rw [own_sc] at h
    by_cases q : acc + F (n / 64) (n % 64) < k
    · rw [if_pos q] at h; exact own_sc_none t (n + 1) _ q h
    · rw [if_neg q] at h; cases h
theorem own_tot_acc (F : Nat → Nat → Int64) : ∀ t n (a b : Int64), own_tot F t n (a + b) = own_tot F t n a + b
  | 0, _, _, _ => rfl
  | t + 1, n, a, b => by
    show own_tot F t (n + 1) (a + b + F (n / 64) (n % 64)) = own_tot F t (n + 1) (a + F (n / 64) (n % 64)) + b
    rw [← own_tot_acc F t (n + 1) (a + F (n / 64) (n % 64)) b, Int64.add_assoc, Int64.add_comm b, ← Int64.add_assoc]
theorem own_tot_out {F : Nat → Nat → Int64} {r q : Nat} (hq : q < 64) : ∀ t n acc, 64 * r + q < n → own_tot (own_bump F r q) t n acc = own_tot F t n acc
  | 0, _, _, _ => rfl
  | t + 1, n, acc, h => by
    have e : own_bump F r q (n / 64) (n % 64) = F (n / 64) (n % 64) := by
      unfold own_bump own_upd
      by_cases q1 : n / 64 = r
      · have : ¬ n % 64 = q := by omega
        simp [q1, this]
      · simp [q1]
    show own_tot (own_bump F r q) t (n + 1) (acc + own_bump F r q (n / 64) (n % 64)) = own_tot F t (n + 1) (acc + F (n / 64) (n % 64))
    rw [e]
    exact own_tot_out hq t (n + 1) _ (by omega)
theorem own_tot_in {F : Nat → Nat → Int64} {r q : Nat} (hq : q < 64) : ∀ t n acc, n ≤ 64 * r + q → 64 * r + q < n + t → own_tot (own_bump F r q) t n acc = own_tot F t n acc + 1
  | 0, _, _, h1, h2 => by omega
  | t + 1, n, acc, h1, h2 => by
    show own_tot (own_bump F r q) t (n + 1) (acc + own_bump F r q (n / 64) (n % 64)) = own_tot F t (n + 1) (acc + F (n / 64) (n % 64)) + 1
    by_cases q0 : n = 64 * r + q
    · have e1 : n / 64 = r := by omega
      have e2 : n % 64 = q := by omega
      have e : own_bump F r q (n / 64) (n % 64) = F (n / 64) (n % 64) + 1 := by
        unfold own_bump own_upd; simp [e1, e2]
      rw [e, own_tot_out hq t (n + 1) _ (by omega), ← Int64.add_assoc, own_tot_acc]
    · have e : own_bump F r q (n / 64) (n % 64) = F (n / 64) (n % 64) := by
        unfold own_bump own_upd
        by_cases q1 : n / 64 = r
        · have : ¬ n % 64 = q := by omega
          simp [q1, this]
        · simp [q1]
      rw [e]
      exact own_tot_in hq t (n + 1) _ (by omega) (by omega)
theorem own_tot_zero : ∀ t n, own_tot (fun _ _ => 0) t n 0 = 0
  | 0, _ => rfl
  | t + 1, n => own_tot_zero t (n + 1)
theorem own_ex {r1 q1 r2 q2 r3 q3 : Nat} (a1 : r1 < 58) (b1 : q1 < 64) (a2 : r2 < 58) (b2 : q2 < 64) (a3 : r3 < 58) (b3 : q3 < 64) : ∃ mm, own_sc (own_bump (own_bump (own_bump (fun _ _ => 0) r1 q1) r2 q2) r3 q3) 2 3712 0 0 = some mm := by
  cases h : own_sc (own_bump (own_bump (own_bump (fun _ _ => 0) r1 q1) r2 q2) r3 q3) 2 3712 0 0 with
  | some mm => exact ⟨mm, rfl⟩
  | none =>
    have := own_sc_none _ _ _ (by decide) h
    rw [own_tot_in b3 _ _ _ (by omega) (by omega), own_tot_in b2 _ _ _ (by omega) (by omega), own_tot_in b1 _ _ _ (by omega) (by omega), own_tot_zero] at this
    exact absurd this (by decide)

theorem d19_5 : Dc prog_19_method_10_code 5 (.iload 5) 2 7 := ⟨by decide +kernel, rfl⟩
theorem d19_7 : Dc prog_19_method_10_code 7 (.bipush 58) 2 9 := ⟨by decide +kernel, rfl⟩
theorem d19_9 : Bi prog_19_method_10_code 9 (Instr.if_icmp .ge) 70 12 := ⟨61, by decide +kernel, by decide, by decide, rfl⟩
theorem d19_12 : Dc prog_19_method_10_code 12 (.aload_n 0) 1 13 := ⟨by decide +kernel, rfl⟩
theorem d19_13 : Dc prog_19_method_10_code 13 (.getfield 13) 3 16 := ⟨by decide +kernel, rfl⟩
theorem d19_16 : Dc prog_19_method_10_code 16 (.iload 5) 2 18 := ⟨by decide +kernel, rfl⟩
theorem d19_18 : Dc prog_19_method_10_code 18 (.aaload) 1 19 := ⟨by decide +kernel, rfl⟩
theorem d19_19 : Dc prog_19_method_10_code 19 (.astore 6) 2 21 := ⟨by decide +kernel, rfl⟩
theorem d19_21 : Dc prog_19_method_10_code 21 (.iconst 0) 1 22 := ⟨by decide +kernel, rfl⟩
theorem d19_22 : Dc prog_19_method_10_code 22 (.istore 7) 2 24 := ⟨by decide +kernel, rfl⟩
theorem d19_24 : Dc prog_19_method_10_code 24 (.aload 6) 2 26 := ⟨by decide +kernel, rfl⟩
theorem d19_26 : Bi prog_19_method_10_code 26 (Instr.ifnull) 64 29 := ⟨38, by decide +kernel, by decide, by decide, rfl⟩
theorem d19_64 : Dc prog_19_method_10_code 64 (.iinc 5 1) 3 67 := ⟨by decide +kernel, rfl⟩
theorem d19_67 : Bi prog_19_method_10_code 67 (Instr.goto) 5 70 := ⟨(-62), by decide +kernel, by decide, by decide, rfl⟩
theorem d19_29 : Dc prog_19_method_10_code 29 (.iload 7) 2 31 := ⟨by decide +kernel, rfl⟩
theorem d19_31 : Dc prog_19_method_10_code 31 (.bipush 64) 2 33 := ⟨by decide +kernel, rfl⟩
theorem d19_33 : Bi prog_19_method_10_code 33 (Instr.if_icmp .ge) 64 36 := ⟨31, by decide +kernel, by decide, by decide, rfl⟩
theorem d19_36 : Dc prog_19_method_10_code 36 (.lload_n 3) 1 37 := ⟨by decide +kernel, rfl⟩
theorem d19_37 : Dc prog_19_method_10_code 37 (.aload 6) 2 39 := ⟨by decide +kernel, rfl⟩
theorem d19_39 : Dc prog_19_method_10_code 39 (.iload 7) 2 41 := ⟨by decide +kernel, rfl⟩
theorem d19_41 : Dc prog_19_method_10_code 41 (.laload) 1 42 := ⟨by decide +kernel, rfl⟩
theorem d19_42 : Dc prog_19_method_10_code 42 (.ladd) 1 43 := ⟨by decide +kernel, rfl⟩
theorem d19_43 : Dc prog_19_method_10_code 43 (.lstore_n 3) 1 44 := ⟨by decide +kernel, rfl⟩
theorem d19_44 : Dc prog_19_method_10_code 44 (.lload_n 3) 1 45 := ⟨by decide +kernel, rfl⟩
theorem d19_45 : Dc prog_19_method_10_code 45 (.lload_n 1) 1 46 := ⟨by decide +kernel, rfl⟩
theorem d19_46 : Dc prog_19_method_10_code 46 (.lcmp) 1 47 := ⟨by decide +kernel, rfl⟩
theorem d19_47 : Bi prog_19_method_10_code 47 (Instr.ifCond .lt) 58 50 := ⟨11, by decide +kernel, by decide, by decide, rfl⟩
theorem d19_58 : Dc prog_19_method_10_code 58 (.iinc 7 1) 3 61 := ⟨by decide +kernel, rfl⟩
theorem d19_61 : Bi prog_19_method_10_code 61 (Instr.goto) 24 64 := ⟨(-37), by decide +kernel, by decide, by decide, rfl⟩
theorem d19_50 : Dc prog_19_method_10_code 50 (.iload 5) 2 52 := ⟨by decide +kernel, rfl⟩
theorem d19_52 : Dc prog_19_method_10_code 52 (.iload 7) 2 54 := ⟨by decide +kernel, rfl⟩
theorem pd_6 : parseMethodDescriptor "(II)J" = some ⟨[.int, .int], some .long⟩ := by decide +kernel
theorem d19_54 : Dc prog_19_method_10_code 54 (.invokestatic 64) 3 57 := ⟨by decide +kernel, rfl⟩
theorem d19_57 : Dc prog_19_method_10_code 57 (.lreturn) 1 58 := ⟨by decide +kernel, rfl⟩
theorem d19_0 : Dc prog_19_method_10_code 0 (.lconst 0) 1 1 := ⟨by decide +kernel, rfl⟩
theorem d19_1 : Dc prog_19_method_10_code 1 (.lstore_n 3) 1 2 := ⟨by decide +kernel, rfl⟩
theorem d19_2 : Dc prog_19_method_10_code 2 (.iconst 0) 1 3 := ⟨by decide +kernel, rfl⟩
theorem d19_3 : Dc prog_19_method_10_code 3 (.istore 5) 2 5 := ⟨by decide +kernel, rfl⟩
theorem pn_rmbm : plainName "com/example/oswego/oswego/RunTimeHistogram" = true := by first | (simp [plainName, overriddenIn]; done) | decide +kernel
set_option maxRecDepth 65536 in
set_option maxHeartbeats 40000000 in
theorem rmbm (l : Launch) (Z : State) (a0 : Array Value) (hw : ∀ d ∈ tables_1, d.before a0 Z = true) (k : Int64) (mm : Nat) (hk : (0 : Int64) < k) (H : Addr) (ws : List Addr) (F : Nat → Nat → Int64) (mn ct sm mx : Int64) (h0 : Heap) (HH : own_H Z h0 H ws F mn ct sm mx) (OL : Old Z Z.heap.size h0) (hsm : own_sc F k 3712 0 0 = some mm) :
    Met l Z (⟨"com/example/oswego/oswego/RunTimeHistogram", "bucketMiddleAt", "(J)J"⟩ : MethodName) prog_19_method_10_code 8 (some .long) ({ frames := 3, cells := 0, slots := 0, locals := 44 } : Room) #[(.ref H), (.long k)] h0 (fun v h' => v = some (.long (own_md mm)) ∧ h0 = h') := by
  refine met_of (Ls := #[.val (.ref H), .val (.long k), .second, .unset, .unset, .unset, .unset, .unset]) (plainFor_of_name pn_rmbm) (fun m => by first | (simp [entryFrame, mkF, argsToLocals, Value.category]; done) | rfl) (fun p e s m below meth c cx => ?_)
  obtain ⟨bk, cK, vs, g_H, g_bk, ne_H_bk, MH, MB, O_H, A_bk, OV_bk, hlen, JI, DI⟩ := HH
  have loop : ∀ (fu : Nat) (i : Int32) (acc : Int64) (l6 l7 : Slot), ((l6 = .unset ∧ l7 = .unset) ∨ (∃ jv, l6 = .val .null ∧ l7 = .val (.int jv)) ∨ (∃ ab jv, l6 = .val (.ref ab) ∧ l7 = .val (.int jv))) → 58 - i.toInt ≤ (fu : Nat) → ¬ i < (0 : Int32) → own_sc F k (3712 - 64 * i.toNatClampNeg) (64 * i.toNatClampNeg) acc = some mm → acc < k → G p l e ({ frames := 3, cells := 0, slots := 0, locals := 44 } : Room) s m #[.ref H, .long k] below meth c Z.heap.size (fun v h' => v = some (.long (own_md mm)) ∧ h0 = h') h0 0 0 5 #[.val (.ref H), .val (.long k), .second, .val (.long acc), .second, .val (.int i), l6, l7] [] := by
    intro fu
    induction fu with
    | zero =>
      intro i acc l6 l7 hl hfu i0 hsc ha
      have i1 := own_sci i0 hsc
      have := Int32.lt_iff_toInt_lt.mp i1
      have e1 : (58 : Int32).toInt = 58 := rfl
      omega
    | succ fu ih =>
      intro i acc l6 l7 hl hfu i0 hsc ha
      have i1 := own_sci i0 hsc
      rcases hl with ⟨rfl, rfl⟩ | ⟨jv, rfl, rfl⟩ | ⟨ab, jv, rfl, rfl⟩
      · refine g_iload cx d19_5 rfl ?_
        refine g_bipush cx d19_7 (v := (58 : Int32)) rfl ?_
        refine g_icmp_ge cx d19_9 (fun q => absurd q (fun q => q i1)) (fun hc9 => ?_)
        refine g_aloadN cx d19_12 rfl rfl ?_
        refine g_getF cx d19_13 (host := "") (Or.inl (hw _ (List.mem_of_getElem? (i := 13) rfl))) Via.refl O_H.2.1 ?_
        refine g_iload cx d19_16 rfl ?_
        rcases JI _ (own_ix i0 i1) with ⟨hv, hzz⟩ | ⟨aa, hv, ⟨cL, A_aa⟩, g_aa, nb, nh, hmm⟩
        · refine g_aaload cx d19_18 A_bk.1 rfl ⟨i0, i1⟩ (v := .null) hv ?_
          refine g_astore cx d19_19 rfl (Ls' := #[.val (.ref H), .val (.long k), .second, .val (.long acc), .second, .val (.int i), .val .null, .unset]) rfl ?_
          refine g_iconst cx d19_21 (v := (0 : Int32)) rfl ?_
          refine g_istore cx d19_22 (Ls' := #[.val (.ref H), .val (.long k), .second, .val (.long acc), .second, .val (.int i), .val .null, .val (.int (0 : Int32))]) rfl ?_
          refine g_aload cx d19_24 rfl rfl ?_
          refine g_ifnull_null cx d19_26 ?_
          refine g_iinc cx d19_64 rfl (v := (1 : Int32)) rfl (Ls' := #[.val (.ref H), .val (.long k), .second, .val (.long acc), .second, .val (.int (i + (1 : Int32))), .val .null, .val (.int (0 : Int32))]) rfl ?_
          refine g_goto cx d19_67 ?_
          exact ih (i + (1 : Int32)) acc _ _ (Or.inr (Or.inl ⟨_, rfl, rfl⟩)) (own_d1' i0 i1 hfu) (own_d2' i0 i1) (own_scN i0 i1 hzz ha hsc) ha
        · refine g_aaload cx d19_18 A_bk.1 rfl ⟨i0, i1⟩ (v := .ref aa) hv ?_
          refine g_astore cx d19_19 rfl (Ls' := #[.val (.ref H), .val (.long k), .second, .val (.long acc), .second, .val (.int i), .val (.ref aa), .unset]) rfl ?_
          refine g_iconst cx d19_21 (v := (0 : Int32)) rfl ?_
          refine g_istore cx d19_22 (Ls' := #[.val (.ref H), .val (.long k), .second, .val (.long acc), .second, .val (.int i), .val (.ref aa), .val (.int (0 : Int32))]) rfl ?_
          have inner : ∀ (fv : Nat) (j : Int32) (acc : Int64), 64 - j.toInt ≤ (fv : Nat) → ¬ j < (0 : Int32) → ¬ (64 : Int32) < j → own_sc F k (3712 - (64 * i.toNatClampNeg + j.toNatClampNeg)) (64 * i.toNatClampNeg + j.toNatClampNeg) acc = some mm → acc < k → G p l e ({ frames := 3, cells := 0, slots := 0, locals := 44 } : Room) s m #[.ref H, .long k] below meth c Z.heap.size (fun v h' => v = some (.long (own_md mm)) ∧ h0 = h') h0 0 0 24 #[.val (.ref H), .val (.long k), .second, .val (.long acc), .second, .val (.int i), .val (.ref aa), .val (.int j)] [] := by
            intro fv
            induction fv with
            | zero =>
              intro j acc hfv j0 j2 hsc' ha'
              have j1 : ¬ j < (64 : Int32) := fun z => by have := Int32.lt_iff_toInt_lt.mp z; have e1 : (64 : Int32).toInt = 64 := rfl; omega
              refine g_aload cx d19_24 rfl rfl ?_
              refine g_ifnull_ref cx d19_26 ?_
              refine g_iload cx d19_29 rfl ?_
              refine g_bipush cx d19_31 (v := (64 : Int32)) rfl ?_
              refine g_icmp_ge cx d19_33 (fun hc33 => ?_) (fun q => absurd q (fun q => j1 q))
              refine g_iinc cx d19_64 rfl (v := (1 : Int32)) rfl (Ls' := #[.val (.ref H), .val (.long k), .second, .val (.long acc), .second, .val (.int (i + (1 : Int32))), .val (.ref aa), .val (.int j)]) rfl ?_
              refine g_goto cx d19_67 ?_
              exact ih (i + (1 : Int32)) acc _ _ (Or.inr (Or.inr ⟨aa, j, rfl, rfl⟩)) (own_d1' i0 i1 hfu) (own_d2' i0 i1) (own_scE i0 i1 hc33 j2 hsc') ha'
            | succ fv ihv =>
              intro j acc hfv j0 j2 hsc' ha'
              refine g_aload cx d19_24 rfl rfl ?_
              refine g_ifnull_ref cx d19_26 ?_
              refine g_iload cx d19_29 rfl ?_
              refine g_bipush cx d19_31 (v := (64 : Int32)) rfl ?_
              refine g_icmp_ge cx d19_33 (fun hc33 => ?_) (fun hc33 => ?_)
              · refine g_iinc cx d19_64 rfl (v := (1 : Int32)) rfl (Ls' := #[.val (.ref H), .val (.long k), .second, .val (.long acc), .second, .val (.int (i + (1 : Int32))), .val (.ref aa), .val (.int j)]) rfl ?_
                refine g_goto cx d19_67 ?_
                exact ih (i + (1 : Int32)) acc _ _ (Or.inr (Or.inr ⟨aa, j, rfl, rfl⟩)) (own_d1' i0 i1 hfu) (own_d2' i0 i1) (own_scE i0 i1 hc33 j2 hsc') ha'
              · refine g_lloadN cx d19_36 rfl ?_
                refine g_aload cx d19_37 rfl rfl ?_
                refine g_iload cx d19_39 rfl ?_
                refine g_laload cx d19_41 A_aa.1 ⟨j0, hc33⟩ (v := .long (F i.toNatClampNeg j.toNatClampNeg)) (own_rl_get _ (own_ix64 j0 hc33) _) ?_
                refine g_ladd cx d19_42 ?_
                refine g_lstoreN cx d19_43 (Ls' := #[.val (.ref H), .val (.long k), .second, .val (.long (acc + (F i.toNatClampNeg j.toNatClampNeg))), .second, .val (.int i), .val (.ref aa), .val (.int j)]) rfl ?_
                refine g_lloadN cx d19_44 rfl ?_
                refine g_lloadN cx d19_45 rfl ?_
                refine g_lif_lt cx d19_46 d19_47 (fun hc47 => ?_) (fun hc47 => ?_)
                · refine g_iinc cx d19_58 rfl (v := (1 : Int32)) rfl (Ls' := #[.val (.ref H), .val (.long k), .second, .val (.long (acc + (F i.toNatClampNeg j.toNatClampNeg))), .second, .val (.int i), .val (.ref aa), .val (.int (j + (1 : Int32)))]) rfl ?_
                  refine g_goto cx d19_61 ?_
                  exact ihv (j + (1 : Int32)) _ (own_d1 j0 hc33 hfv) (own_d2 j0 hc33) (own_j2 j0 hc33) ((own_scS i0 i1 j0 hc33 hsc').1 hc47) hc47
                · refine g_iload cx d19_50 rfl ?_
                  refine g_iload cx d19_52 rfl ?_
                  refine g_static cx (y := (⟨"com/example/oswego/oswego/RunTimeHistogram", "middleOf", "(II)J"⟩ : MethodName)) d19_54 (hw _ (List.mem_of_getElem? (i := 102) rfl)) (hw _ (List.mem_of_getElem? (i := 103) rfl)) (hw _ (List.mem_of_getElem? (i := 4) rfl)) (hw _ (List.mem_of_getElem? (i := 104) rfl)) (by decide) (bytes := prog_19_method_13_code) (maxL' := 4) (M := (rmmo l Z a0 hw _ _ _)) rfl (lenOf pd_6 rfl) (by decide) (W := 0) (Nat.le_of_eq rfl) (by decide) (k' := 0) (n' := 0) rfl rfl (by decide) (by decide) (argsL := [(.int i), (.int j)]) (rest := []) rfl (fun v2 h1 q3 => ?_)
                  obtain ⟨rfl, rfl⟩ := q3
                  refine G.cast (st' := [(.long (own_mid i j))]) ?_ rfl
                  refine g_retJ cx d19_57 rfl (by decide) (by decide) ?_
                  exact ⟨by rw [own_scM i0 i1 j0 hc33 ((own_scS i0 i1 j0 hc33 hsc').2 hc47)], rfl⟩
          exact inner 64 (0 : Int32) acc (by decide) (by decide) (by decide) hsc ha
      · refine g_iload cx d19_5 rfl ?_
        refine g_bipush cx d19_7 (v := (58 : Int32)) rfl ?_
        refine g_icmp_ge cx d19_9 (fun q => absurd q (fun q => q i1)) (fun hc9 => ?_)
        refine g_aloadN cx d19_12 rfl rfl ?_
        refine g_getF cx d19_13 (host := "") (Or.inl (hw _ (List.mem_of_getElem? (i := 13) rfl))) Via.refl O_H.2.1 ?_
        refine g_iload cx d19_16 rfl ?_
        rcases JI _ (own_ix i0 i1) with ⟨hv, hzz⟩ | ⟨aa, hv, ⟨cL, A_aa⟩, g_aa, nb, nh, hmm⟩
        · refine g_aaload cx d19_18 A_bk.1 rfl ⟨i0, i1⟩ (v := .null) hv ?_
          refine g_astore cx d19_19 rfl (Ls' := #[.val (.ref H), .val (.long k), .second, .val (.long acc), .second, .val (.int i), .val .null, .val (.int jv)]) rfl ?_
          refine g_iconst cx d19_21 (v := (0 : Int32)) rfl ?_
          refine g_istore cx d19_22 (Ls' := #[.val (.ref H), .val (.long k), .second, .val (.long acc), .second, .val (.int i), .val .null, .val (.int (0 : Int32))]) rfl ?_
          refine g_aload cx d19_24 rfl rfl ?_
          refine g_ifnull_null cx d19_26 ?_
          refine g_iinc cx d19_64 rfl (v := (1 : Int32)) rfl (Ls' := #[.val (.ref H), .val (.long k), .second, .val (.long acc), .second, .val (.int (i + (1 : Int32))), .val .null, .val (.int (0 : Int32))]) rfl ?_
          refine g_goto cx d19_67 ?_
          exact ih (i + (1 : Int32)) acc _ _ (Or.inr (Or.inl ⟨_, rfl, rfl⟩)) (own_d1' i0 i1 hfu) (own_d2' i0 i1) (own_scN i0 i1 hzz ha hsc) ha
        · refine g_aaload cx d19_18 A_bk.1 rfl ⟨i0, i1⟩ (v := .ref aa) hv ?_
          refine g_astore cx d19_19 rfl (Ls' := #[.val (.ref H), .val (.long k), .second, .val (.long acc), .second, .val (.int i), .val (.ref aa), .val (.int jv)]) rfl ?_
          refine g_iconst cx d19_21 (v := (0 : Int32)) rfl ?_
          refine g_istore cx d19_22 (Ls' := #[.val (.ref H), .val (.long k), .second, .val (.long acc), .second, .val (.int i), .val (.ref aa), .val (.int (0 : Int32))]) rfl ?_
          have inner : ∀ (fv : Nat) (j : Int32) (acc : Int64), 64 - j.toInt ≤ (fv : Nat) → ¬ j < (0 : Int32) → ¬ (64 : Int32) < j → own_sc F k (3712 - (64 * i.toNatClampNeg + j.toNatClampNeg)) (64 * i.toNatClampNeg + j.toNatClampNeg) acc = some mm → acc < k → G p l e ({ frames := 3, cells := 0, slots := 0, locals := 44 } : Room) s m #[.ref H, .long k] below meth c Z.heap.size (fun v h' => v = some (.long (own_md mm)) ∧ h0 = h') h0 0 0 24 #[.val (.ref H), .val (.long k), .second, .val (.long acc), .second, .val (.int i), .val (.ref aa), .val (.int j)] [] := by
            intro fv
            induction fv with
            | zero =>
              intro j acc hfv j0 j2 hsc' ha'
              have j1 : ¬ j < (64 : Int32) := fun z => by have := Int32.lt_iff_toInt_lt.mp z; have e1 : (64 : Int32).toInt = 64 := rfl; omega
              refine g_aload cx d19_24 rfl rfl ?_
              refine g_ifnull_ref cx d19_26 ?_
              refine g_iload cx d19_29 rfl ?_
              refine g_bipush cx d19_31 (v := (64 : Int32)) rfl ?_
              refine g_icmp_ge cx d19_33 (fun hc33 => ?_) (fun q => absurd q (fun q => j1 q))
              refine g_iinc cx d19_64 rfl (v := (1 : Int32)) rfl (Ls' := #[.val (.ref H), .val (.long k), .second, .val (.long acc), .second, .val (.int (i + (1 : Int32))), .val (.ref aa), .val (.int j)]) rfl ?_
              refine g_goto cx d19_67 ?_
              exact ih (i + (1 : Int32)) acc _ _ (Or.inr (Or.inr ⟨aa, j, rfl, rfl⟩)) (own_d1' i0 i1 hfu) (own_d2' i0 i1) (own_scE i0 i1 hc33 j2 hsc') ha'
            | succ fv ihv =>
              intro j acc hfv j0 j2 hsc' ha'
              refine g_aload cx d19_24 rfl rfl ?_
              refine g_ifnull_ref cx d19_26 ?_
              refine g_iload cx d19_29 rfl ?_
              refine g_bipush cx d19_31 (v := (64 : Int32)) rfl ?_
              refine g_icmp_ge cx d19_33 (fun hc33 => ?_) (fun hc33 => ?_)
              · refine g_iinc cx d19_64 rfl (v := (1 : Int32)) rfl (Ls' := #[.val (.ref H), .val (.long k), .second, .val (.long acc), .second, .val (.int (i + (1 : Int32))), .val (.ref aa), .val (.int j)]) rfl ?_
                refine g_goto cx d19_67 ?_
                exact ih (i + (1 : Int32)) acc _ _ (Or.inr (Or.inr ⟨aa, j, rfl, rfl⟩)) (own_d1' i0 i1 hfu) (own_d2' i0 i1) (own_scE i0 i1 hc33 j2 hsc') ha'
              · refine g_lloadN cx d19_36 rfl ?_
                refine g_aload cx d19_37 rfl rfl ?_
                refine g_iload cx d19_39 rfl ?_
                refine g_laload cx d19_41 A_aa.1 ⟨j0, hc33⟩ (v := .long (F i.toNatClampNeg j.toNatClampNeg)) (own_rl_get _ (own_ix64 j0 hc33) _) ?_
                refine g_ladd cx d19_42 ?_
                refine g_lstoreN cx d19_43 (Ls' := #[.val (.ref H), .val (.long k), .second, .val (.long (acc + (F i.toNatClampNeg j.toNatClampNeg))), .second, .val (.int i), .val (.ref aa), .val (.int j)]) rfl ?_
                refine g_lloadN cx d19_44 rfl ?_
                refine g_lloadN cx d19_45 rfl ?_
                refine g_lif_lt cx d19_46 d19_47 (fun hc47 => ?_) (fun hc47 => ?_)
                · refine g_iinc cx d19_58 rfl (v := (1 : Int32)) rfl (Ls' := #[.val (.ref H), .val (.long k), .second, .val (.long (acc + (F i.toNatClampNeg j.toNatClampNeg))), .second, .val (.int i), .val (.ref aa), .val (.int (j + (1 : Int32)))]) rfl ?_
                  refine g_goto cx d19_61 ?_
                  exact ihv (j + (1 : Int32)) _ (own_d1 j0 hc33 hfv) (own_d2 j0 hc33) (own_j2 j0 hc33) ((own_scS i0 i1 j0 hc33 hsc').1 hc47) hc47
                · refine g_iload cx d19_50 rfl ?_
                  refine g_iload cx d19_52 rfl ?_
                  refine g_static cx (y := (⟨"com/example/oswego/oswego/RunTimeHistogram", "middleOf", "(II)J"⟩ : MethodName)) d19_54 (hw _ (List.mem_of_getElem? (i := 102) rfl)) (hw _ (List.mem_of_getElem? (i := 103) rfl)) (hw _ (List.mem_of_getElem? (i := 4) rfl)) (hw _ (List.mem_of_getElem? (i := 104) rfl)) (by decide) (bytes := prog_19_method_13_code) (maxL' := 4) (M := (rmmo l Z a0 hw _ _ _)) rfl (lenOf pd_6 rfl) (by decide) (W := 0) (Nat.le_of_eq rfl) (by decide) (k' := 0) (n' := 0) rfl rfl (by decide) (by decide) (argsL := [(.int i), (.int j)]) (rest := []) rfl (fun v2 h1 q3 => ?_)
                  obtain ⟨rfl, rfl⟩ := q3
                  refine G.cast (st' := [(.long (own_mid i j))]) ?_ rfl
                  refine g_retJ cx d19_57 rfl (by decide) (by decide) ?_
                  exact ⟨by rw [own_scM i0 i1 j0 hc33 ((own_scS i0 i1 j0 hc33 hsc').2 hc47)], rfl⟩
          exact inner 64 (0 : Int32) acc (by decide) (by decide) (by decide) hsc ha
      · refine g_iload cx d19_5 rfl ?_
        refine g_bipush cx d19_7 (v := (58 : Int32)) rfl ?_
        refine g_icmp_ge cx d19_9 (fun q => absurd q (fun q => q i1)) (fun hc9 => ?_)
        refine g_aloadN cx d19_12 rfl rfl ?_
        refine g_getF cx d19_13 (host := "") (Or.inl (hw _ (List.mem_of_getElem? (i := 13) rfl))) Via.refl O_H.2.1 ?_
        refine g_iload cx d19_16 rfl ?_
        rcases JI _ (own_ix i0 i1) with ⟨hv, hzz⟩ | ⟨aa, hv, ⟨cL, A_aa⟩, g_aa, nb, nh, hmm⟩
        · refine g_aaload cx d19_18 A_bk.1 rfl ⟨i0, i1⟩ (v := .null) hv ?_
          refine g_astore cx d19_19 rfl (Ls' := #[.val (.ref H), .val (.long k), .second, .val (.long acc), .second, .val (.int i), .val .null, .val (.int jv)]) rfl ?_
          refine g_iconst cx d19_21 (v := (0 : Int32)) rfl ?_
          refine g_istore cx d19_22 (Ls' := #[.val (.ref H), .val (.long k), .second, .val (.long acc), .second, .val (.int i), .val .null, .val (.int (0 : Int32))]) rfl ?_
          refine g_aload cx d19_24 rfl rfl ?_
          refine g_ifnull_null cx d19_26 ?_
          refine g_iinc cx d19_64 rfl (v := (1 : Int32)) rfl (Ls' := #[.val (.ref H), .val (.long k), .second, .val (.long acc), .second, .val (.int (i + (1 : Int32))), .val .null, .val (.int (0 : Int32))]) rfl ?_
          refine g_goto cx d19_67 ?_
          exact ih (i + (1 : Int32)) acc _ _ (Or.inr (Or.inl ⟨_, rfl, rfl⟩)) (own_d1' i0 i1 hfu) (own_d2' i0 i1) (own_scN i0 i1 hzz ha hsc) ha
        · refine g_aaload cx d19_18 A_bk.1 rfl ⟨i0, i1⟩ (v := .ref aa) hv ?_
          refine g_astore cx d19_19 rfl (Ls' := #[.val (.ref H), .val (.long k), .second, .val (.long acc), .second, .val (.int i), .val (.ref aa), .val (.int jv)]) rfl ?_
          refine g_iconst cx d19_21 (v := (0 : Int32)) rfl ?_
          refine g_istore cx d19_22 (Ls' := #[.val (.ref H), .val (.long k), .second, .val (.long acc), .second, .val (.int i), .val (.ref aa), .val (.int (0 : Int32))]) rfl ?_
          have inner : ∀ (fv : Nat) (j : Int32) (acc : Int64), 64 - j.toInt ≤ (fv : Nat) → ¬ j < (0 : Int32) → ¬ (64 : Int32) < j → own_sc F k (3712 - (64 * i.toNatClampNeg + j.toNatClampNeg)) (64 * i.toNatClampNeg + j.toNatClampNeg) acc = some mm → acc < k → G p l e ({ frames := 3, cells := 0, slots := 0, locals := 44 } : Room) s m #[.ref H, .long k] below meth c Z.heap.size (fun v h' => v = some (.long (own_md mm)) ∧ h0 = h') h0 0 0 24 #[.val (.ref H), .val (.long k), .second, .val (.long acc), .second, .val (.int i), .val (.ref aa), .val (.int j)] [] := by
            intro fv
            induction fv with
            | zero =>
              intro j acc hfv j0 j2 hsc' ha'
              have j1 : ¬ j < (64 : Int32) := fun z => by have := Int32.lt_iff_toInt_lt.mp z; have e1 : (64 : Int32).toInt = 64 := rfl; omega
              refine g_aload cx d19_24 rfl rfl ?_
              refine g_ifnull_ref cx d19_26 ?_
              refine g_iload cx d19_29 rfl ?_
              refine g_bipush cx d19_31 (v := (64 : Int32)) rfl ?_
              refine g_icmp_ge cx d19_33 (fun hc33 => ?_) (fun q => absurd q (fun q => j1 q))
              refine g_iinc cx d19_64 rfl (v := (1 : Int32)) rfl (Ls' := #[.val (.ref H), .val (.long k), .second, .val (.long acc), .second, .val (.int (i + (1 : Int32))), .val (.ref aa), .val (.int j)]) rfl ?_
              refine g_goto cx d19_67 ?_
              exact ih (i + (1 : Int32)) acc _ _ (Or.inr (Or.inr ⟨aa, j, rfl, rfl⟩)) (own_d1' i0 i1 hfu) (own_d2' i0 i1) (own_scE i0 i1 hc33 j2 hsc') ha'
            | succ fv ihv =>
              intro j acc hfv j0 j2 hsc' ha'
              refine g_aload cx d19_24 rfl rfl ?_
              refine g_ifnull_ref cx d19_26 ?_
              refine g_iload cx d19_29 rfl ?_
              refine g_bipush cx d19_31 (v := (64 : Int32)) rfl ?_
              refine g_icmp_ge cx d19_33 (fun hc33 => ?_) (fun hc33 => ?_)
              · refine g_iinc cx d19_64 rfl (v := (1 : Int32)) rfl (Ls' := #[.val (.ref H), .val (.long k), .second, .val (.long acc), .second, .val (.int (i + (1 : Int32))), .val (.ref aa), .val (.int j)]) rfl ?_
                refine g_goto cx d19_67 ?_
                exact ih (i + (1 : Int32)) acc _ _ (Or.inr (Or.inr ⟨aa, j, rfl, rfl⟩)) (own_d1' i0 i1 hfu) (own_d2' i0 i1) (own_scE i0 i1 hc33 j2 hsc') ha'
              · refine g_lloadN cx d19_36 rfl ?_
                refine g_aload cx d19_37 rfl rfl ?_
                refine g_iload cx d19_39 rfl ?_
                refine g_laload cx d19_41 A_aa.1 ⟨j0, hc33⟩ (v := .long (F i.toNatClampNeg j.toNatClampNeg)) (own_rl_get _ (own_ix64 j0 hc33) _) ?_
                refine g_ladd cx d19_42 ?_
                refine g_lstoreN cx d19_43 (Ls' := #[.val (.ref H), .val (.long k), .second, .val (.long (acc + (F i.toNatClampNeg j.toNatClampNeg))), .second, .val (.int i), .val (.ref aa), .val (.int j)]) rfl ?_
                refine g_lloadN cx d19_44 rfl ?_
                refine g_lloadN cx d19_45 rfl ?_
                refine g_lif_lt cx d19_46 d19_47 (fun hc47 => ?_) (fun hc47 => ?_)
                · refine g_iinc cx d19_58 rfl (v := (1 : Int32)) rfl (Ls' := #[.val (.ref H), .val (.long k), .second, .val (.long (acc + (F i.toNatClampNeg j.toNatClampNeg))), .second, .val (.int i), .val (.ref aa), .val (.int (j + (1 : Int32)))]) rfl ?_
                  refine g_goto cx d19_61 ?_
                  exact ihv (j + (1 : Int32)) _ (own_d1 j0 hc33 hfv) (own_d2 j0 hc33) (own_j2 j0 hc33) ((own_scS i0 i1 j0 hc33 hsc').1 hc47) hc47
                · refine g_iload cx d19_50 rfl ?_
                  refine g_iload cx d19_52 rfl ?_
                  refine g_static cx (y := (⟨"com/example/oswego/oswego/RunTimeHistogram", "middleOf", "(II)J"⟩ : MethodName)) d19_54 (hw _ (List.mem_of_getElem? (i := 102) rfl)) (hw _ (List.mem_of_getElem? (i := 103) rfl)) (hw _ (List.mem_of_getElem? (i := 4) rfl)) (hw _ (List.mem_of_getElem? (i := 104) rfl)) (by decide) (bytes := prog_19_method_13_code) (maxL' := 4) (M := (rmmo l Z a0 hw _ _ _)) rfl (lenOf pd_6 rfl) (by decide) (W := 0) (Nat.le_of_eq rfl) (by decide) (k' := 0) (n' := 0) rfl rfl (by decide) (by decide) (argsL := [(.int i), (.int j)]) (rest := []) rfl (fun v2 h1 q3 => ?_)
                  obtain ⟨rfl, rfl⟩ := q3
                  refine G.cast (st' := [(.long (own_mid i j))]) ?_ rfl
                  refine g_retJ cx d19_57 rfl (by decide) (by decide) ?_
                  exact ⟨by rw [own_scM i0 i1 j0 hc33 ((own_scS i0 i1 j0 hc33 hsc').2 hc47)], rfl⟩
          exact inner 64 (0 : Int32) acc (by decide) (by decide) (by decide) hsc ha
  refine g_lconst cx d19_0 (v := (0 : Int64)) rfl ?_
  refine g_lstoreN cx d19_1 (Ls' := #[.val (.ref H), .val (.long k), .second, .val (.long (0 : Int64)), .second, .unset, .unset, .unset]) rfl ?_
  refine g_iconst cx d19_2 (v := (0 : Int32)) rfl ?_
  refine g_istore cx d19_3 (Ls' := #[.val (.ref H), .val (.long k), .second, .val (.long (0 : Int64)), .second, .val (.int (0 : Int32)), .unset, .unset]) rfl ?_
  exact loop 58 (0 : Int32) (0 : Int64) .unset .unset (Or.inl ⟨rfl, rfl⟩) (by decide) (by decide) (by have e0 : (0 : Int32).toNatClampNeg = 0 := rfl; rw [e0]; simpa using hsm) hk
def own_pc (mn mx : Int64) (mm : Nat) (ip : Int32) : Int64 := if (((0 : Int64) * ((ip).toInt64)) + ((((3 : Int64) * ((ip).toInt64)) + (999 : Int64)) / (1000 : Int64))) = (1 : Int64) then mn else if (((0 : Int64) * ((ip).toInt64)) + ((((3 : Int64) * ((ip).toInt64)) + (999 : Int64)) / (1000 : Int64))) = (3 : Int64) then mx else own_min mx (own_max mn (own_md mm))
theorem d17_0 : Dc prog_19_method_9_code 0 (.aload_n 0) 1 1 := ⟨by decide +kernel, rfl⟩
theorem d17_1 : Dc prog_19_method_9_code 1 (.getfield 31) 3 4 := ⟨by decide +kernel, rfl⟩
theorem d17_4 : Dc prog_19_method_9_code 4 (.lconst 0) 1 5 := ⟨by decide +kernel, rfl⟩
theorem d17_5 : Dc prog_19_method_9_code 5 (.lcmp) 1 6 := ⟨by decide +kernel, rfl⟩
theorem d17_6 : Bi prog_19_method_9_code 6 (Instr.ifCond .ne) 11 9 := ⟨5, by decide +kernel, by decide, by decide, rfl⟩
theorem d17_11 : Dc prog_19_method_9_code 11 (.aload_n 0) 1 12 := ⟨by decide +kernel, rfl⟩
theorem d17_12 : Dc prog_19_method_9_code 12 (.getfield 31) 3 15 := ⟨by decide +kernel, rfl⟩
theorem d17_15 : Dc prog_19_method_9_code 15 (.ldc2_w 56) 3 18 := ⟨by decide +kernel, rfl⟩
theorem d17_18 : Dc prog_19_method_9_code 18 (.ldiv) 1 19 := ⟨by decide +kernel, rfl⟩
theorem d17_19 : Dc prog_19_method_9_code 19 (.iload_n 1) 1 20 := ⟨by decide +kernel, rfl⟩
theorem d17_20 : Dc prog_19_method_9_code 20 (.i2l) 1 21 := ⟨by decide +kernel, rfl⟩
theorem d17_21 : Dc prog_19_method_9_code 21 (.lmul) 1 22 := ⟨by decide +kernel, rfl⟩
theorem d17_22 : Dc prog_19_method_9_code 22 (.aload_n 0) 1 23 := ⟨by decide +kernel, rfl⟩
theorem d17_23 : Dc prog_19_method_9_code 23 (.getfield 31) 3 26 := ⟨by decide +kernel, rfl⟩
theorem d17_26 : Dc prog_19_method_9_code 26 (.ldc2_w 56) 3 29 := ⟨by decide +kernel, rfl⟩
theorem d17_29 : Dc prog_19_method_9_code 29 (.lrem) 1 30 := ⟨by decide +kernel, rfl⟩
theorem d17_30 : Dc prog_19_method_9_code 30 (.iload_n 1) 1 31 := ⟨by decide +kernel, rfl⟩
theorem d17_31 : Dc prog_19_method_9_code 31 (.i2l) 1 32 := ⟨by decide +kernel, rfl⟩
theorem d17_32 : Dc prog_19_method_9_code 32 (.lmul) 1 33 := ⟨by decide +kernel, rfl⟩
theorem d17_33 : Dc prog_19_method_9_code 33 (.ldc2_w 58) 3 36 := ⟨by decide +kernel, rfl⟩
theorem d17_36 : Dc prog_19_method_9_code 36 (.ladd) 1 37 := ⟨by decide +kernel, rfl⟩
theorem d17_37 : Dc prog_19_method_9_code 37 (.ldc2_w 56) 3 40 := ⟨by decide +kernel, rfl⟩
theorem d17_40 : Dc prog_19_method_9_code 40 (.ldiv) 1 41 := ⟨by decide +kernel, rfl⟩
theorem d17_41 : Dc prog_19_method_9_code 41 (.ladd) 1 42 := ⟨by decide +kernel, rfl⟩
theorem d17_42 : Dc prog_19_method_9_code 42 (.lstore_n 2) 1 43 := ⟨by decide +kernel, rfl⟩
theorem d17_43 : Dc prog_19_method_9_code 43 (.lload_n 2) 1 44 := ⟨by decide +kernel, rfl⟩
theorem d17_44 : Dc prog_19_method_9_code 44 (.lconst 1) 1 45 := ⟨by decide +kernel, rfl⟩
theorem d17_45 : Dc prog_19_method_9_code 45 (.lcmp) 1 46 := ⟨by decide +kernel, rfl⟩
theorem d17_46 : Bi prog_19_method_9_code 46 (Instr.ifCond .ne) 58 49 := ⟨12, by decide +kernel, by decide, by decide, rfl⟩
theorem d17_58 : Dc prog_19_method_9_code 58 (.lload_n 2) 1 59 := ⟨by decide +kernel, rfl⟩
theorem d17_59 : Dc prog_19_method_9_code 59 (.aload_n 0) 1 60 := ⟨by decide +kernel, rfl⟩
theorem d17_60 : Dc prog_19_method_9_code 60 (.getfield 31) 3 63 := ⟨by decide +kernel, rfl⟩
theorem d17_63 : Dc prog_19_method_9_code 63 (.lcmp) 1 64 := ⟨by decide +kernel, rfl⟩
theorem d17_64 : Bi prog_19_method_9_code 64 (Instr.ifCond .ne) 76 67 := ⟨12, by decide +kernel, by decide, by decide, rfl⟩
theorem d17_76 : Dc prog_19_method_9_code 76 (.aload_n 0) 1 77 := ⟨by decide +kernel, rfl⟩
theorem d17_77 : Dc prog_19_method_9_code 77 (.getfield 42) 3 80 := ⟨by decide +kernel, rfl⟩
theorem d17_80 : Dc prog_19_method_9_code 80 (.aload_n 0) 1 81 := ⟨by decide +kernel, rfl⟩
theorem d17_81 : Dc prog_19_method_9_code 81 (.getfield 19) 3 84 := ⟨by decide +kernel, rfl⟩
theorem d17_84 : Dc prog_19_method_9_code 84 (.aload_n 0) 1 85 := ⟨by decide +kernel, rfl⟩
theorem d17_85 : Dc prog_19_method_9_code 85 (.lload_n 2) 1 86 := ⟨by decide +kernel, rfl⟩
theorem pd_7 : parseMethodDescriptor "(J)J" = some ⟨[.long], some .long⟩ := by decide +kernel
theorem d17_86 : Dc prog_19_method_9_code 86 (.invokevirtual 60) 3 89 := ⟨by decide +kernel, rfl⟩
theorem d17_89 : Dc prog_19_method_9_code 89 (.invokestatic 45) 3 92 := ⟨by decide +kernel, rfl⟩
theorem d17_92 : Dc prog_19_method_9_code 92 (.invokestatic 37) 3 95 := ⟨by decide +kernel, rfl⟩
theorem d17_95 : Dc prog_19_method_9_code 95 (.lstore 4) 2 97 := ⟨by decide +kernel, rfl⟩
theorem d17_97 : Dc prog_19_method_9_code 97 (.lload 4) 2 99 := ⟨by decide +kernel, rfl⟩
theorem d17_99 : Dc prog_19_method_9_code 99 (.lreturn) 1 100 := ⟨by decide +kernel, rfl⟩
theorem d17_67 : Dc prog_19_method_9_code 67 (.aload_n 0) 1 68 := ⟨by decide +kernel, rfl⟩
theorem d17_68 : Dc prog_19_method_9_code 68 (.getfield 42) 3 71 := ⟨by decide +kernel, rfl⟩
theorem d17_71 : Dc prog_19_method_9_code 71 (.lstore 4) 2 73 := ⟨by decide +kernel, rfl⟩
theorem d17_73 : Bi prog_19_method_9_code 73 (Instr.goto) 97 76 := ⟨24, by decide +kernel, by decide, by decide, rfl⟩
theorem d17_49 : Dc prog_19_method_9_code 49 (.aload_n 0) 1 50 := ⟨by decide +kernel, rfl⟩
theorem d17_50 : Dc prog_19_method_9_code 50 (.getfield 19) 3 53 := ⟨by decide +kernel, rfl⟩
theorem d17_53 : Dc prog_19_method_9_code 53 (.lstore 4) 2 55 := ⟨by decide +kernel, rfl⟩
theorem d17_55 : Bi prog_19_method_9_code 55 (Instr.goto) 97 58 := ⟨42, by decide +kernel, by decide, by decide, rfl⟩
theorem pn_rmpe : plainName "com/example/oswego/oswego/RunTimeHistogram" = true := by first | (simp [plainName, overriddenIn]; done) | decide +kernel
set_option maxRecDepth 65536 in
set_option maxHeartbeats 40000000 in
theorem rmpe (l : Launch) (Z : State) (a0 : Array Value) (hw : ∀ d ∈ tables_1, d.before a0 Z = true) (ip : Int32) (hp1 : ¬ ip < (1 : Int32)) (hp2 : ip < (1001 : Int32)) (mm : Nat) (H : Addr) (ws : List Addr) (F : Nat → Nat → Int64) (mn sm mx : Int64) (h0 : Heap) (HH : own_H Z h0 H ws F mn (3 : Int64) sm mx) (OL : Old Z Z.heap.size h0) (hsm : own_sc F 2 3712 0 0 = some mm) :
    Met l Z (⟨"com/example/oswego/oswego/RunTimeHistogram", "percentile", "(I)J"⟩ : MethodName) prog_19_method_9_code 6 (some .long) ({ frames := 4, cells := 0, slots := 0, locals := 67 } : Room) #[(.ref H), (.int ip)] h0 (fun v h' => v = some (.long (own_pc mn mx mm ip)) ∧ h0 = h') := by
  refine met_of (Ls := #[.val (.ref H), .val (.int ip), .unset, .unset, .unset, .unset]) (plainFor_of_name pn_rmpe) (fun m => by first | (simp [entryFrame, mkF, argsToLocals, Value.category]; done) | rfl) (fun p e s m below meth c cx => ?_)
  have HH0 := HH
  obtain ⟨bk, cK, vs, g_H, g_bk, ne_H_bk, MH, MB, O_H, A_bk, OV_bk, hlen, JI, DI⟩ := HH
  have HH := HH0
  refine g_aloadN cx d17_0 rfl rfl ?_
  refine g_getF cx d17_1 (host := "") (Or.inl (hw _ (List.mem_of_getElem? (i := 23) rfl))) Via.refl O_H.2.2.2.1 ?_
  refine g_lconst cx d17_4 (v := (0 : Int64)) rfl ?_
  refine g_lif_ne cx d17_5 d17_6 (fun hc6 => ?_) (fun q => absurd q (fun q => by revert q; decide))
  refine g_aloadN cx d17_11 rfl rfl ?_
  refine g_getF cx d17_12 (host := "") (Or.inl (hw _ (List.mem_of_getElem? (i := 23) rfl))) Via.refl O_H.2.2.2.1 ?_
  refine g_ldcJ cx d17_15 (hw _ (List.mem_of_getElem? (i := 92) rfl)) ?_
  refine g_ldiv cx d17_18 (by decide) ?_
  refine G.cast (st' := [(.long (0 : Int64))]) ?_ rfl
  refine g_iloadN cx d17_19 rfl ?_
  refine g_i2l cx d17_20 ?_
  refine g_lmul cx d17_21 ?_
  refine g_aloadN cx d17_22 rfl rfl ?_
  refine g_getF cx d17_23 (host := "") (Or.inl (hw _ (List.mem_of_getElem? (i := 23) rfl))) Via.refl O_H.2.2.2.1 ?_
  refine g_ldcJ cx d17_26 (hw _ (List.mem_of_getElem? (i := 92) rfl)) ?_
  refine g_lrem cx d17_29 (by decide) ?_
  refine G.cast (st' := [(.long (3 : Int64)), (.long ((0 : Int64) * ((ip).toInt64)))]) ?_ rfl
  refine g_iloadN cx d17_30 rfl ?_
  refine g_i2l cx d17_31 ?_
  refine g_lmul cx d17_32 ?_
  refine g_ldcJ cx d17_33 (hw _ (List.mem_of_getElem? (i := 93) rfl)) ?_
  refine g_ladd cx d17_36 ?_
  refine g_ldcJ cx d17_37 (hw _ (List.mem_of_getElem? (i := 92) rfl)) ?_
  refine g_ldiv cx d17_40 (by decide) ?_
  refine g_ladd cx d17_41 ?_
  refine g_lstoreN cx d17_42 (Ls' := #[.val (.ref H), .val (.int ip), .val (.long (((0 : Int64) * ((ip).toInt64)) + ((((3 : Int64) * ((ip).toInt64)) + (999 : Int64)) / (1000 : Int64)))), .second, .unset, .unset]) rfl ?_
  refine g_lloadN cx d17_43 rfl ?_
  refine g_lconst cx d17_44 (v := (1 : Int64)) rfl ?_
  refine g_lif_ne cx d17_45 d17_46 (fun hc46 => ?_) (fun hc46 => ?_)
  · refine g_lloadN cx d17_58 rfl ?_
    refine g_aloadN cx d17_59 rfl rfl ?_
    refine g_getF cx d17_60 (host := "") (Or.inl (hw _ (List.mem_of_getElem? (i := 23) rfl))) Via.refl O_H.2.2.2.1 ?_
    refine g_lif_ne cx d17_63 d17_64 (fun hc64 => ?_) (fun hc64 => ?_)
    · refine g_aloadN cx d17_76 rfl rfl ?_
      refine g_getF cx d17_77 (host := "") (Or.inl (hw _ (List.mem_of_getElem? (i := 27) rfl))) Via.refl O_H.2.2.2.2.2 ?_
      refine g_aloadN cx d17_80 rfl rfl ?_
      refine g_getF cx d17_81 (host := "") (Or.inl (hw _ (List.mem_of_getElem? (i := 16) rfl))) Via.refl O_H.2.2.1 ?_
      refine g_aloadN cx d17_84 rfl rfl ?_
      refine g_lloadN cx d17_85 rfl ?_
      refine g_private cx (y := (⟨"com/example/oswego/oswego/RunTimeHistogram", "bucketMiddleAt", "(J)J"⟩ : MethodName)) (a := H) d17_86 (hw _ (List.mem_of_getElem? (i := 98) rfl)) (hw _ (List.mem_of_getElem? (i := 99) rfl)) (hw _ (List.mem_of_getElem? (i := 4) rfl)) (hw _ (List.mem_of_getElem? (i := 101) rfl)) (own_selpriv (hw _ (List.mem_of_getElem? (i := 3) rfl)) (hw _ (List.mem_of_getElem? (i := 100) rfl)) (hw _ (List.mem_of_getElem? (i := 99) rfl)) (by decide)) (hw _ (List.mem_of_getElem? (i := 100) rfl)) (by decide) O_H.1 (bytes := prog_19_method_10_code) (maxL' := 8) (M := (rmbm l Z a0 hw (((0 : Int64) * ((ip).toInt64)) + ((((3 : Int64) * ((ip).toInt64)) + (999 : Int64)) / (1000 : Int64))) mm (by rw [(show (((0 : Int64) * ((ip).toInt64)) + ((((3 : Int64) * ((ip).toInt64)) + (999 : Int64)) / (1000 : Int64))) = (2 : Int64) from Int64.toInt_inj.mp (by have r1 := rng32 ip; have e2 : (1 : Int32).toInt = 1 := rfl; have e3 : (1001 : Int32).toInt = 1001 := rfl; have e4 : (2 : Int64).toInt = 2 := rfl; have i_hp1 : ¬ (ip).toInt < ((1 : Int32)).toInt := fun z => hp1 (Int32.lt_iff_toInt_lt.mpr z); have i_hp2 : (ip).toInt < ((1001 : Int32)).toInt := Int32.lt_iff_toInt_lt.mp hp2; have e7 : (0 : Int64).toInt = 0 := rfl; have e8 := c_i2l ip; have e6 : (((0 : Int64) * ((ip).toInt64))).toInt = 0 * (((ip).toInt64)).toInt := (by have w : ((((0 : Int64) * ((ip).toInt64))).toInt - 0 * (((ip).toInt64)).toInt) % 18446744073709551616 = 0 := c_lmul (0 : Int64) ((ip).toInt64); have r := rng64 ((0 : Int64) * ((ip).toInt64)); omega); have e12 : (3 : Int64).toInt = 3 := rfl; have e11 : (((3 : Int64) * ((ip).toInt64))).toInt = 3 * (((ip).toInt64)).toInt := (by have w : ((((3 : Int64) * ((ip).toInt64))).toInt - 3 * (((ip).toInt64)).toInt) % 18446744073709551616 = 0 := c_lmul (3 : Int64) ((ip).toInt64); have r := rng64 ((3 : Int64) * ((ip).toInt64)); omega); have e13 : (999 : Int64).toInt = 999 := rfl; have e10 : ((((3 : Int64) * ((ip).toInt64)) + (999 : Int64))).toInt = (((3 : Int64) * ((ip).toInt64))).toInt + ((999 : Int64)).toInt := (by have w := c_ladd ((3 : Int64) * ((ip).toInt64)) (999 : Int64); have r := rng64 (((3 : Int64) * ((ip).toInt64)) + (999 : Int64)); omega); have e9 : (0 ≤ ((((3 : Int64) * ((ip).toInt64)) + (999 : Int64))).toInt → (((((3 : Int64) * ((ip).toInt64)) + (999 : Int64)) / (1000 : Int64))).toInt = ((((3 : Int64) * ((ip).toInt64)) + (999 : Int64))).toInt / 1000) ∧ (((((3 : Int64) * ((ip).toInt64)) + (999 : Int64))).toInt < 0 → (((((3 : Int64) * ((ip).toInt64)) + (999 : Int64)) / (1000 : Int64))).toInt = -((-((((3 : Int64) * ((ip).toInt64)) + (999 : Int64))).toInt) / 1000)) := c_ldiv (((3 : Int64) * ((ip).toInt64)) + (999 : Int64)) (1000 : Int64) 1000 rfl (by decide); have e5 : ((((0 : Int64) * ((ip).toInt64)) + ((((3 : Int64) * ((ip).toInt64)) + (999 : Int64)) / (1000 : Int64)))).toInt = (((0 : Int64) * ((ip).toInt64))).toInt + (((((3 : Int64) * ((ip).toInt64)) + (999 : Int64)) / (1000 : Int64))).toInt := (by have w := c_ladd ((0 : Int64) * ((ip).toInt64)) ((((3 : Int64) * ((ip).toInt64)) + (999 : Int64)) / (1000 : Int64)); have r := rng64 (((0 : Int64) * ((ip).toInt64)) + ((((3 : Int64) * ((ip).toInt64)) + (999 : Int64)) / (1000 : Int64))); omega); have e14 : (1 : Int64).toInt = 1 := rfl; have i_hc46 : ¬ ((((0 : Int64) * ((ip).toInt64)) + ((((3 : Int64) * ((ip).toInt64)) + (999 : Int64)) / (1000 : Int64)))).toInt = ((1 : Int64)).toInt := fun z => hc46 (Int64.toInt_inj.mp z); have i_hc64 : ¬ ((((0 : Int64) * ((ip).toInt64)) + ((((3 : Int64) * ((ip).toInt64)) + (999 : Int64)) / (1000 : Int64)))).toInt = ((3 : Int64)).toInt := fun z => hc64 (Int64.toInt_inj.mp z); omega))]; decide) H ws F mn (3 : Int64) sm mx _ HH OL (by rw [(show (((0 : Int64) * ((ip).toInt64)) + ((((3 : Int64) * ((ip).toInt64)) + (999 : Int64)) / (1000 : Int64))) = (2 : Int64) from Int64.toInt_inj.mp (by have r1 := rng32 ip; have e2 : (1 : Int32).toInt = 1 := rfl; have e3 : (1001 : Int32).toInt = 1001 := rfl; have e4 : (2 : Int64).toInt = 2 := rfl; have i_hp1 : ¬ (ip).toInt < ((1 : Int32)).toInt := fun z => hp1 (Int32.lt_iff_toInt_lt.mpr z); have i_hp2 : (ip).toInt < ((1001 : Int32)).toInt := Int32.lt_iff_toInt_lt.mp hp2; have e7 : (0 : Int64).toInt = 0 := rfl; have e8 := c_i2l ip; have e6 : (((0 : Int64) * ((ip).toInt64))).toInt = 0 * (((ip).toInt64)).toInt := (by have w : ((((0 : Int64) * ((ip).toInt64))).toInt - 0 * (((ip).toInt64)).toInt) % 18446744073709551616 = 0 := c_lmul (0 : Int64) ((ip).toInt64); have r := rng64 ((0 : Int64) * ((ip).toInt64)); omega); have e12 : (3 : Int64).toInt = 3 := rfl; have e11 : (((3 : Int64) * ((ip).toInt64))).toInt = 3 * (((ip).toInt64)).toInt := (by have w : ((((3 : Int64) * ((ip).toInt64))).toInt - 3 * (((ip).toInt64)).toInt) % 18446744073709551616 = 0 := c_lmul (3 : Int64) ((ip).toInt64); have r := rng64 ((3 : Int64) * ((ip).toInt64)); omega); have e13 : (999 : Int64).toInt = 999 := rfl; have e10 : ((((3 : Int64) * ((ip).toInt64)) + (999 : Int64))).toInt = (((3 : Int64) * ((ip).toInt64))).toInt + ((999 : Int64)).toInt := (by have w := c_ladd ((3 : Int64) * ((ip).toInt64)) (999 : Int64); have r := rng64 (((3 : Int64) * ((ip).toInt64)) + (999 : Int64)); omega); have e9 : (0 ≤ ((((3 : Int64) * ((ip).toInt64)) + (999 : Int64))).toInt → (((((3 : Int64) * ((ip).toInt64)) + (999 : Int64)) / (1000 : Int64))).toInt = ((((3 : Int64) * ((ip).toInt64)) + (999 : Int64))).toInt / 1000) ∧ (((((3 : Int64) * ((ip).toInt64)) + (999 : Int64))).toInt < 0 → (((((3 : Int64) * ((ip).toInt64)) + (999 : Int64)) / (1000 : Int64))).toInt = -((-((((3 : Int64) * ((ip).toInt64)) + (999 : Int64))).toInt) / 1000)) := c_ldiv (((3 : Int64) * ((ip).toInt64)) + (999 : Int64)) (1000 : Int64) 1000 rfl (by decide); have e5 : ((((0 : Int64) * ((ip).toInt64)) + ((((3 : Int64) * ((ip).toInt64)) + (999 : Int64)) / (1000 : Int64)))).toInt = (((0 : Int64) * ((ip).toInt64))).toInt + (((((3 : Int64) * ((ip).toInt64)) + (999 : Int64)) / (1000 : Int64))).toInt := (by have w := c_ladd ((0 : Int64) * ((ip).toInt64)) ((((3 : Int64) * ((ip).toInt64)) + (999 : Int64)) / (1000 : Int64)); have r := rng64 (((0 : Int64) * ((ip).toInt64)) + ((((3 : Int64) * ((ip).toInt64)) + (999 : Int64)) / (1000 : Int64))); omega); have e14 : (1 : Int64).toInt = 1 := rfl; have i_hc46 : ¬ ((((0 : Int64) * ((ip).toInt64)) + ((((3 : Int64) * ((ip).toInt64)) + (999 : Int64)) / (1000 : Int64)))).toInt = ((1 : Int64)).toInt := fun z => hc46 (Int64.toInt_inj.mp z); have i_hc64 : ¬ ((((0 : Int64) * ((ip).toInt64)) + ((((3 : Int64) * ((ip).toInt64)) + (999 : Int64)) / (1000 : Int64)))).toInt = ((3 : Int64)).toInt := fun z => hc64 (Int64.toInt_inj.mp z); omega))]; exact hsm))) rfl (lenOf pd_7 rfl) (by decide) (W := 4) (Nat.le_of_eq rfl) (by decide) (k' := 0) (n' := 0) rfl rfl (by decide) (by decide) (argsL := [(.long (((0 : Int64) * ((ip).toInt64)) + ((((3 : Int64) * ((ip).toInt64)) + (999 : Int64)) / (1000 : Int64))))]) (rest := [(.long mn), (.long mx)]) rfl (fun v2 h1 q3 => ?_)
      obtain ⟨rfl, rfl⟩ := q3
      refine G.cast (st' := [(.long (own_md mm)), (.long mn), (.long mx)]) ?_ rfl
      refine g_static cx (y := (⟨"java/lang/Math", "max", "(JJ)J"⟩ : MethodName)) d17_89 (hw _ (List.mem_of_getElem? (i := 71) rfl)) (hw _ (List.mem_of_getElem? (i := 72) rfl)) (hw _ (List.mem_of_getElem? (i := 58) rfl)) (hw _ (List.mem_of_getElem? (i := 73) rfl)) (by decide) (bytes := jdk_29_method_66_code) (maxL' := 4) (M := (rmxl l Z a0 hw _ _ _)) rfl (lenOf pd_4 rfl) (by decide) (W := 2) (Nat.le_of_eq rfl) (by decide) (k' := 0) (n' := 0) rfl rfl (by decide) (by decide) (argsL := [(.long mn), (.long (own_md mm))]) (rest := [(.long mx)]) rfl (fun v5 h4 q6 => ?_)
      obtain ⟨rfl, rfl⟩ := q6
      refine G.cast (st' := [(.long (own_max mn (own_md mm))), (.long mx)]) ?_ rfl
      refine g_static cx (y := (⟨"java/lang/Math", "min", "(JJ)J"⟩ : MethodName)) d17_92 (hw _ (List.mem_of_getElem? (i := 68) rfl)) (hw _ (List.mem_of_getElem? (i := 69) rfl)) (hw _ (List.mem_of_getElem? (i := 58) rfl)) (hw _ (List.mem_of_getElem? (i := 70) rfl)) (by decide) (bytes := jdk_29_method_70_code) (maxL' := 4) (M := (rmnl l Z a0 hw _ _ _)) rfl (lenOf pd_4 rfl) (by decide) (W := 0) (Nat.le_of_eq rfl) (by decide) (k' := 0) (n' := 0) rfl rfl (by decide) (by decide) (argsL := [(.long mx), (.long (own_max mn (own_md mm)))]) (rest := []) rfl (fun v8 h7 q9 => ?_)
      obtain ⟨rfl, rfl⟩ := q9
      refine G.cast (st' := [(.long (own_min mx (own_max mn (own_md mm))))]) ?_ rfl
      refine g_lstore cx d17_95 (Ls' := #[.val (.ref H), .val (.int ip), .val (.long (((0 : Int64) * ((ip).toInt64)) + ((((3 : Int64) * ((ip).toInt64)) + (999 : Int64)) / (1000 : Int64)))), .second, .val (.long (own_min mx (own_max mn (own_md mm)))), .second]) rfl ?_
      refine g_lload cx d17_97 rfl ?_
      refine g_retJ cx d17_99 rfl (by decide) (by decide) ?_
      exact ⟨by rw [own_pc, if_neg hc46, if_neg hc64], rfl⟩
    · refine g_aloadN cx d17_67 rfl rfl ?_
      refine g_getF cx d17_68 (host := "") (Or.inl (hw _ (List.mem_of_getElem? (i := 27) rfl))) Via.refl O_H.2.2.2.2.2 ?_
      refine g_lstore cx d17_71 (Ls' := #[.val (.ref H), .val (.int ip), .val (.long (((0 : Int64) * ((ip).toInt64)) + ((((3 : Int64) * ((ip).toInt64)) + (999 : Int64)) / (1000 : Int64)))), .second, .val (.long mx), .second]) rfl ?_
      refine g_goto cx d17_73 ?_
      refine g_lload cx d17_97 rfl ?_
      refine g_retJ cx d17_99 rfl (by decide) (by decide) ?_
      exact ⟨by rw [own_pc, if_neg hc46, if_pos hc64], rfl⟩
  · refine g_aloadN cx d17_49 rfl rfl ?_
    refine g_getF cx d17_50 (host := "") (Or.inl (hw _ (List.mem_of_getElem? (i := 16) rfl))) Via.refl O_H.2.2.1 ?_
    refine g_lstore cx d17_53 (Ls' := #[.val (.ref H), .val (.int ip), .val (.long (((0 : Int64) * ((ip).toInt64)) + ((((3 : Int64) * ((ip).toInt64)) + (999 : Int64)) / (1000 : Int64)))), .second, .val (.long mn), .second]) rfl ?_
    refine g_goto cx d17_55 ?_
    refine g_lload cx d17_97 rfl ?_
    refine g_retJ cx d17_99 rfl (by decide) (by decide) ?_
    exact ⟨by rw [own_pc, if_pos hc46], rfl⟩
theorem d0_0 : Dc code 0 (.lload_n 0) 1 1 := ⟨by decide +kernel, rfl⟩
theorem d0_1 : Dc code 1 (.ldc2_w 9) 3 4 := ⟨by decide +kernel, rfl⟩
theorem d0_4 : Dc code 4 (.land) 1 5 := ⟨by decide +kernel, rfl⟩
theorem d0_5 : Dc code 5 (.lstore 10) 2 7 := ⟨by decide +kernel, rfl⟩
theorem d0_7 : Dc code 7 (.lload_n 2) 1 8 := ⟨by decide +kernel, rfl⟩
theorem d0_8 : Dc code 8 (.ldc2_w 9) 3 11 := ⟨by decide +kernel, rfl⟩
theorem d0_11 : Dc code 11 (.land) 1 12 := ⟨by decide +kernel, rfl⟩
theorem d0_12 : Dc code 12 (.lstore 12) 2 14 := ⟨by decide +kernel, rfl⟩
theorem d0_14 : Dc code 14 (.lload 4) 2 16 := ⟨by decide +kernel, rfl⟩
theorem d0_16 : Dc code 16 (.ldc2_w 9) 3 19 := ⟨by decide +kernel, rfl⟩
theorem d0_19 : Dc code 19 (.land) 1 20 := ⟨by decide +kernel, rfl⟩
theorem d0_20 : Dc code 20 (.lstore 14) 2 22 := ⟨by decide +kernel, rfl⟩
theorem d0_22 : Dc code 22 (.lload 6) 2 24 := ⟨by decide +kernel, rfl⟩
theorem d0_24 : Dc code 24 (.ldc2_w 9) 3 27 := ⟨by decide +kernel, rfl⟩
theorem d0_27 : Dc code 27 (.land) 1 28 := ⟨by decide +kernel, rfl⟩
theorem d0_28 : Dc code 28 (.lstore 16) 2 30 := ⟨by decide +kernel, rfl⟩
theorem d0_30 : Dc code 30 (.iload 8) 2 32 := ⟨by decide +kernel, rfl⟩
theorem d0_32 : Dc code 32 (.ldc 11) 2 34 := ⟨by decide +kernel, rfl⟩
theorem d0_34 : Dc code 34 (.iand) 1 35 := ⟨by decide +kernel, rfl⟩
theorem d0_35 : Dc code 35 (.sipush 1000) 3 38 := ⟨by decide +kernel, rfl⟩
theorem d0_38 : Dc code 38 (.irem) 1 39 := ⟨by decide +kernel, rfl⟩
theorem d0_39 : Dc code 39 (.iconst 1) 1 40 := ⟨by decide +kernel, rfl⟩
theorem d0_40 : Dc code 40 (.iadd) 1 41 := ⟨by decide +kernel, rfl⟩
theorem d0_41 : Dc code 41 (.istore 18) 2 43 := ⟨by decide +kernel, rfl⟩
theorem d0_43 : Dc code 43 (.new 12) 3 46 := ⟨by decide +kernel, rfl⟩
theorem d0_46 : Dc code 46 (.dup) 1 47 := ⟨by decide +kernel, rfl⟩
theorem pd_8 : parseMethodDescriptor "()V" = some ⟨[], none⟩ := by decide +kernel
theorem d0_47 : Dc code 47 (.invokespecial 14) 3 50 := ⟨by decide +kernel, rfl⟩
theorem d0_50 : Dc code 50 (.astore 19) 2 52 := ⟨by decide +kernel, rfl⟩
theorem d0_52 : Dc code 52 (.new 12) 3 55 := ⟨by decide +kernel, rfl⟩
theorem d0_55 : Dc code 55 (.dup) 1 56 := ⟨by decide +kernel, rfl⟩
theorem d0_56 : Dc code 56 (.invokespecial 14) 3 59 := ⟨by decide +kernel, rfl⟩
theorem d0_59 : Dc code 59 (.astore 20) 2 61 := ⟨by decide +kernel, rfl⟩
theorem d0_61 : Dc code 61 (.iload 9) 2 63 := ⟨by decide +kernel, rfl⟩
theorem d0_63 : Dc code 63 (.iconst 1) 1 64 := ⟨by decide +kernel, rfl⟩
theorem d0_64 : Dc code 64 (.iand) 1 65 := ⟨by decide +kernel, rfl⟩
theorem d0_65 : Bi code 65 (Instr.ifCond .eq) 75 68 := ⟨10, by decide +kernel, by decide, by decide, rfl⟩
theorem d0_75 : Dc code 75 (.aload 19) 2 77 := ⟨by decide +kernel, rfl⟩
theorem d0_77 : Dc code 77 (.invokevirtual 19) 3 80 := ⟨by decide +kernel, rfl⟩
theorem d0_80 : Dc code 80 (.aload 19) 2 82 := ⟨by decide +kernel, rfl⟩
theorem pd_9 : parseMethodDescriptor "()J" = some ⟨[], some .long⟩ := by decide +kernel
theorem d0_82 : Dc code 82 (.invokevirtual 22) 3 85 := ⟨by decide +kernel, rfl⟩
theorem d0_85 : Dc code 85 (.lconst 0) 1 86 := ⟨by decide +kernel, rfl⟩
theorem d0_86 : Dc code 86 (.lcmp) 1 87 := ⟨by decide +kernel, rfl⟩
theorem d0_87 : Bi code 87 (Instr.ifCond .ne) 104 90 := ⟨17, by decide +kernel, by decide, by decide, rfl⟩
theorem d0_90 : Dc code 90 (.aload 19) 2 92 := ⟨by decide +kernel, rfl⟩
theorem d0_92 : Dc code 92 (.invokevirtual 26) 3 95 := ⟨by decide +kernel, rfl⟩
theorem d0_95 : Dc code 95 (.lconst 0) 1 96 := ⟨by decide +kernel, rfl⟩
theorem d0_96 : Dc code 96 (.lcmp) 1 97 := ⟨by decide +kernel, rfl⟩
theorem d0_97 : Bi code 97 (Instr.ifCond .ne) 104 100 := ⟨7, by decide +kernel, by decide, by decide, rfl⟩
theorem d0_100 : Dc code 100 (.iconst 1) 1 101 := ⟨by decide +kernel, rfl⟩
theorem d0_101 : Bi code 101 (Instr.goto) 105 104 := ⟨4, by decide +kernel, by decide, by decide, rfl⟩
theorem d0_105 : Dc code 105 (.istore 21) 2 107 := ⟨by decide +kernel, rfl⟩
theorem d0_107 : Dc code 107 (.aload 19) 2 109 := ⟨by decide +kernel, rfl⟩
theorem d0_109 : Dc code 109 (.lload 12) 2 111 := ⟨by decide +kernel, rfl⟩
theorem pd_10 : parseMethodDescriptor "(J)V" = some ⟨[.long], none⟩ := by decide +kernel
theorem d0_111 : Dc code 111 (.invokevirtual 15) 3 114 := ⟨by decide +kernel, rfl⟩
theorem d0_114 : Dc code 114 (.aload 19) 2 116 := ⟨by decide +kernel, rfl⟩
theorem d0_116 : Dc code 116 (.lload 14) 2 118 := ⟨by decide +kernel, rfl⟩
theorem d0_118 : Dc code 118 (.invokevirtual 15) 3 121 := ⟨by decide +kernel, rfl⟩
theorem d0_121 : Dc code 121 (.aload 19) 2 123 := ⟨by decide +kernel, rfl⟩
theorem d0_123 : Dc code 123 (.lload 16) 2 125 := ⟨by decide +kernel, rfl⟩
theorem d0_125 : Dc code 125 (.invokevirtual 15) 3 128 := ⟨by decide +kernel, rfl⟩
theorem d0_128 : Dc code 128 (.aload 20) 2 130 := ⟨by decide +kernel, rfl⟩
theorem d0_130 : Dc code 130 (.lload 12) 2 132 := ⟨by decide +kernel, rfl⟩
theorem d0_132 : Dc code 132 (.invokevirtual 15) 3 135 := ⟨by decide +kernel, rfl⟩
theorem d0_135 : Dc code 135 (.aload 20) 2 137 := ⟨by decide +kernel, rfl⟩
theorem d0_137 : Dc code 137 (.lload 14) 2 139 := ⟨by decide +kernel, rfl⟩
theorem d0_139 : Dc code 139 (.invokevirtual 15) 3 142 := ⟨by decide +kernel, rfl⟩
theorem d0_142 : Dc code 142 (.aload 20) 2 144 := ⟨by decide +kernel, rfl⟩
theorem d0_144 : Dc code 144 (.lload 16) 2 146 := ⟨by decide +kernel, rfl⟩
theorem d0_146 : Dc code 146 (.invokevirtual 15) 3 149 := ⟨by decide +kernel, rfl⟩
theorem d0_149 : Dc code 149 (.lload 12) 2 151 := ⟨by decide +kernel, rfl⟩
theorem d0_151 : Dc code 151 (.lload 14) 2 153 := ⟨by decide +kernel, rfl⟩
theorem d0_153 : Dc code 153 (.lload 16) 2 155 := ⟨by decide +kernel, rfl⟩
theorem d0_155 : Dc code 155 (.invokestatic 29) 3 158 := ⟨by decide +kernel, rfl⟩
theorem d0_158 : Dc code 158 (.invokestatic 29) 3 161 := ⟨by decide +kernel, rfl⟩
theorem d0_161 : Dc code 161 (.lstore 22) 2 163 := ⟨by decide +kernel, rfl⟩
theorem d0_163 : Dc code 163 (.lload 12) 2 165 := ⟨by decide +kernel, rfl⟩
theorem d0_165 : Dc code 165 (.lload 14) 2 167 := ⟨by decide +kernel, rfl⟩
theorem d0_167 : Dc code 167 (.lload 16) 2 169 := ⟨by decide +kernel, rfl⟩
theorem d0_169 : Dc code 169 (.invokestatic 35) 3 172 := ⟨by decide +kernel, rfl⟩
theorem d0_172 : Dc code 172 (.invokestatic 35) 3 175 := ⟨by decide +kernel, rfl⟩
theorem d0_175 : Dc code 175 (.lstore 24) 2 177 := ⟨by decide +kernel, rfl⟩
theorem d0_177 : Dc code 177 (.aload 19) 2 179 := ⟨by decide +kernel, rfl⟩
theorem d0_179 : Dc code 179 (.invokevirtual 22) 3 182 := ⟨by decide +kernel, rfl⟩
theorem d0_182 : Dc code 182 (.ldc2_w 37) 3 185 := ⟨by decide +kernel, rfl⟩
theorem d0_185 : Dc code 185 (.lcmp) 1 186 := ⟨by decide +kernel, rfl⟩
theorem d0_186 : Bi code 186 (Instr.ifCond .ne) 232 189 := ⟨46, by decide +kernel, by decide, by decide, rfl⟩
theorem d0_189 : Dc code 189 (.aload 19) 2 191 := ⟨by decide +kernel, rfl⟩
theorem d0_191 : Dc code 191 (.invokevirtual 39) 3 194 := ⟨by decide +kernel, rfl⟩
theorem d0_194 : Dc code 194 (.lload 12) 2 196 := ⟨by decide +kernel, rfl⟩
theorem d0_196 : Dc code 196 (.lload 14) 2 198 := ⟨by decide +kernel, rfl⟩
theorem d0_198 : Dc code 198 (.ladd) 1 199 := ⟨by decide +kernel, rfl⟩
theorem d0_199 : Dc code 199 (.lload 16) 2 201 := ⟨by decide +kernel, rfl⟩
theorem d0_201 : Dc code 201 (.ladd) 1 202 := ⟨by decide +kernel, rfl⟩
theorem d0_202 : Dc code 202 (.lcmp) 1 203 := ⟨by decide +kernel, rfl⟩
theorem d0_203 : Bi code 203 (Instr.ifCond .ne) 232 206 := ⟨29, by decide +kernel, by decide, by decide, rfl⟩
theorem d0_206 : Dc code 206 (.aload 19) 2 208 := ⟨by decide +kernel, rfl⟩
theorem d0_208 : Dc code 208 (.invokevirtual 42) 3 211 := ⟨by decide +kernel, rfl⟩
theorem d0_211 : Dc code 211 (.lload 22) 2 213 := ⟨by decide +kernel, rfl⟩
theorem d0_213 : Dc code 213 (.lcmp) 1 214 := ⟨by decide +kernel, rfl⟩
theorem d0_214 : Bi code 214 (Instr.ifCond .ne) 232 217 := ⟨18, by decide +kernel, by decide, by decide, rfl⟩
theorem d0_217 : Dc code 217 (.aload 19) 2 219 := ⟨by decide +kernel, rfl⟩
theorem d0_219 : Dc code 219 (.invokevirtual 26) 3 222 := ⟨by decide +kernel, rfl⟩
theorem d0_222 : Dc code 222 (.lload 24) 2 224 := ⟨by decide +kernel, rfl⟩
theorem d0_224 : Dc code 224 (.lcmp) 1 225 := ⟨by decide +kernel, rfl⟩
theorem d0_225 : Bi code 225 (Instr.ifCond .ne) 232 228 := ⟨7, by decide +kernel, by decide, by decide, rfl⟩
theorem d0_228 : Dc code 228 (.iconst 1) 1 229 := ⟨by decide +kernel, rfl⟩
theorem d0_229 : Bi code 229 (Instr.goto) 233 232 := ⟨4, by decide +kernel, by decide, by decide, rfl⟩
theorem d0_233 : Dc code 233 (.istore 26) 2 235 := ⟨by decide +kernel, rfl⟩
theorem d0_235 : Dc code 235 (.aload 19) 2 237 := ⟨by decide +kernel, rfl⟩
theorem d0_237 : Dc code 237 (.iload 18) 2 239 := ⟨by decide +kernel, rfl⟩
theorem pd_11 : parseMethodDescriptor "(I)J" = some ⟨[.int], some .long⟩ := by decide +kernel
theorem d0_239 : Dc code 239 (.invokevirtual 44) 3 242 := ⟨by decide +kernel, rfl⟩
theorem d0_242 : Dc code 242 (.aload 20) 2 244 := ⟨by decide +kernel, rfl⟩
theorem d0_244 : Dc code 244 (.iload 18) 2 246 := ⟨by decide +kernel, rfl⟩
theorem d0_246 : Dc code 246 (.invokevirtual 44) 3 249 := ⟨by decide +kernel, rfl⟩
theorem d0_249 : Dc code 249 (.lcmp) 1 250 := ⟨by decide +kernel, rfl⟩
theorem d0_250 : Bi code 250 (Instr.ifCond .ne) 257 253 := ⟨7, by decide +kernel, by decide, by decide, rfl⟩
theorem d0_253 : Dc code 253 (.iconst 1) 1 254 := ⟨by decide +kernel, rfl⟩
theorem d0_254 : Bi code 254 (Instr.goto) 258 257 := ⟨4, by decide +kernel, by decide, by decide, rfl⟩
theorem d0_258 : Dc code 258 (.istore 27) 2 260 := ⟨by decide +kernel, rfl⟩
theorem d0_260 : Dc code 260 (.iload 21) 2 262 := ⟨by decide +kernel, rfl⟩
theorem d0_262 : Bi code 262 (Instr.ifCond .eq) 279 265 := ⟨17, by decide +kernel, by decide, by decide, rfl⟩
theorem d0_265 : Dc code 265 (.iload 26) 2 267 := ⟨by decide +kernel, rfl⟩
theorem d0_267 : Bi code 267 (Instr.ifCond .eq) 279 270 := ⟨12, by decide +kernel, by decide, by decide, rfl⟩
theorem d0_270 : Dc code 270 (.iload 27) 2 272 := ⟨by decide +kernel, rfl⟩
theorem d0_272 : Bi code 272 (Instr.ifCond .eq) 279 275 := ⟨7, by decide +kernel, by decide, by decide, rfl⟩
theorem d0_275 : Dc code 275 (.iconst 1) 1 276 := ⟨by decide +kernel, rfl⟩
theorem d0_276 : Bi code 276 (Instr.goto) 280 279 := ⟨4, by decide +kernel, by decide, by decide, rfl⟩
theorem d0_280 : Dc code 280 (.ireturn) 1 281 := ⟨by decide +kernel, rfl⟩
theorem d0_68 : Dc code 68 (.aload 19) 2 70 := ⟨by decide +kernel, rfl⟩
theorem d0_70 : Dc code 70 (.lload 10) 2 72 := ⟨by decide +kernel, rfl⟩
theorem d0_72 : Dc code 72 (.invokevirtual 15) 3 75 := ⟨by decide +kernel, rfl⟩
theorem pn_rm0 : plainName "com/example/oswego/oswego/RunTimeHistogramClearPinLaw" = true := by first | (simp [plainName, overriddenIn]; done) | decide +kernel
set_option maxRecDepth 65536 in
set_option maxHeartbeats 40000000 in
theorem rm0 (l : Launch) (Z : State) (a0 : Array Value) (hw : ∀ d ∈ tables_1, d.before a0 Z = true) (ja jc jd je : Int64) (iq ig : Int32) (h0 : Heap) (OL : Old Z Z.heap.size h0) :
    Met l Z x code maxLocals ret room_1 #[(.long ja), (.long jc), (.long jd), (.long je), (.int iq), (.int ig)] h0 (fun v _ => v = some (.int 1)) := by
  refine met_of (Ls := #[.val (.long ja), .second, .val (.long jc), .second, .val (.long jd), .second, .val (.long je), .second, .val (.int iq), .val (.int ig), .unset, .unset, .unset, .unset, .unset, .unset, .unset, .unset, .unset, .unset, .unset, .unset, .unset, .unset, .unset, .unset, .unset, .unset]) (plainFor_of_name pn_rm0) (fun m => by first | (simp [entryFrame, mkF, argsToLocals, Value.category, maxLocals]; done) | rfl) (fun p e s m below meth c cx => ?_)
  refine g_lloadN cx d0_0 rfl ?_
  refine g_ldcJ cx d0_1 (hw _ (List.mem_of_getElem? (i := 0) rfl)) ?_
  refine g_land cx d0_4 ?_
  refine g_lstore cx d0_5 (Ls' := #[.val (.long ja), .second, .val (.long jc), .second, .val (.long jd), .second, .val (.long je), .second, .val (.int iq), .val (.int ig), .val (.long (ja &&& (9223372036854775807 : Int64))), .second, .unset, .unset, .unset, .unset, .unset, .unset, .unset, .unset, .unset, .unset, .unset, .unset, .unset, .unset, .unset, .unset]) rfl ?_
  refine g_lloadN cx d0_7 rfl ?_
  refine g_ldcJ cx d0_8 (hw _ (List.mem_of_getElem? (i := 0) rfl)) ?_
  refine g_land cx d0_11 ?_
  refine g_lstore cx d0_12 (Ls' := #[.val (.long ja), .second, .val (.long jc), .second, .val (.long jd), .second, .val (.long je), .second, .val (.int iq), .val (.int ig), .val (.long (ja &&& (9223372036854775807 : Int64))), .second, .val (.long (jc &&& (9223372036854775807 : Int64))), .second, .unset, .unset, .unset, .unset, .unset, .unset, .unset, .unset, .unset, .unset, .unset, .unset, .unset, .unset]) rfl ?_
  refine g_lload cx d0_14 rfl ?_
  refine g_ldcJ cx d0_16 (hw _ (List.mem_of_getElem? (i := 0) rfl)) ?_
  refine g_land cx d0_19 ?_
  refine g_lstore cx d0_20 (Ls' := #[.val (.long ja), .second, .val (.long jc), .second, .val (.long jd), .second, .val (.long je), .second, .val (.int iq), .val (.int ig), .val (.long (ja &&& (9223372036854775807 : Int64))), .second, .val (.long (jc &&& (9223372036854775807 : Int64))), .second, .val (.long (jd &&& (9223372036854775807 : Int64))), .second, .unset, .unset, .unset, .unset, .unset, .unset, .unset, .unset, .unset, .unset, .unset, .unset]) rfl ?_
  refine g_lload cx d0_22 rfl ?_
  refine g_ldcJ cx d0_24 (hw _ (List.mem_of_getElem? (i := 0) rfl)) ?_
  refine g_land cx d0_27 ?_
  refine g_lstore cx d0_28 (Ls' := #[.val (.long ja), .second, .val (.long jc), .second, .val (.long jd), .second, .val (.long je), .second, .val (.int iq), .val (.int ig), .val (.long (ja &&& (9223372036854775807 : Int64))), .second, .val (.long (jc &&& (9223372036854775807 : Int64))), .second, .val (.long (jd &&& (9223372036854775807 : Int64))), .second, .val (.long (je &&& (9223372036854775807 : Int64))), .second, .unset, .unset, .unset, .unset, .unset, .unset, .unset, .unset, .unset, .unset]) rfl ?_
  refine g_iload cx d0_30 rfl ?_
  refine g_ldcI cx d0_32 (hw _ (List.mem_of_getElem? (i := 1) rfl)) ?_
  refine g_iand cx d0_34 ?_
  refine g_sipush cx d0_35 (v := (1000 : Int32)) rfl ?_
  refine g_irem cx d0_38 (by decide) ?_
  refine g_iconst cx d0_39 (v := (1 : Int32)) rfl ?_
  refine g_iadd cx d0_40 ?_
  refine g_istore cx d0_41 (Ls' := #[.val (.long ja), .second, .val (.long jc), .second, .val (.long jd), .second, .val (.long je), .second, .val (.int iq), .val (.int ig), .val (.long (ja &&& (9223372036854775807 : Int64))), .second, .val (.long (jc &&& (9223372036854775807 : Int64))), .second, .val (.long (jd &&& (9223372036854775807 : Int64))), .second, .val (.long (je &&& (9223372036854775807 : Int64))), .second, .val (.int (((iq &&& (2147483647 : Int32)) % (1000 : Int32)) + (1 : Int32))), .unset, .unset, .unset, .unset, .unset, .unset, .unset, .unset, .unset]) rfl ?_
  refine g_new cx d0_43 (hw _ (List.mem_of_getElem? (i := 2) rfl)) (hw _ (List.mem_of_getElem? (i := 3) rfl)) (hw _ (List.mem_of_getElem? (i := 4) rfl)) (k' := 1) (n' := 5) rfl rfl (by decide) (by decide) (fun h1 b2 gb3 E4 X5 D6 => ?_)
  have g_b2 : Z.heap.size ≤ b2 := by rw [gb3]; exact OL.2.1
  have NEW := gb3
  have OL := OL.ext E4
  have O_b2 := ObH.new hw X5 D6
  refine g_dup cx d0_46 rfl ?_
  refine g_special cx (y := (⟨"com/example/oswego/oswego/RunTimeHistogram", "<init>", "()V"⟩ : MethodName)) (a := b2) d0_47 rfl rfl (hw _ (List.mem_of_getElem? (i := 5) rfl)) (hw _ (List.mem_of_getElem? (i := 6) rfl)) (hw _ (List.mem_of_getElem? (i := 4) rfl)) (hw _ (List.mem_of_getElem? (i := 7) rfl)) (by decide) (bytes := prog_19_method_1_code) (maxL' := 1) (M := (rmini l Z a0 hw b2 _ O_b2 g_b2 OL)) rfl (lenOf pd_8 rfl) (by decide) (W := 1) (Nat.le_of_eq rfl) (by decide) (k' := 2) (n' := 63) rfl rfl (by decide) (by decide) (argsL := []) (rest := [(.ref b2)]) rfl (fun v8 h7 q9 => ?_)
  obtain ⟨ws_b2, rfl, KI, WI, HH_b2⟩ := q9
  have OL := OL.keep KI (allS g_b2 all0)
  have LT_b2 : ∀ z ∈ ws_b2, z < _ := fun z hz => (WI z hz).elim (fun q => by rw [List.mem_singleton.mp q]; exact own_Hlt HH_b2) And.right
  have O_b2 := own_Hx HH_b2
  refine G.cast (st' := [(.ref b2)]) ?_ rfl
  refine g_astore cx d0_50 rfl (Ls' := #[.val (.long ja), .second, .val (.long jc), .second, .val (.long jd), .second, .val (.long je), .second, .val (.int iq), .val (.int ig), .val (.long (ja &&& (9223372036854775807 : Int64))), .second, .val (.long (jc &&& (9223372036854775807 : Int64))), .second, .val (.long (jd &&& (9223372036854775807 : Int64))), .second, .val (.long (je &&& (9223372036854775807 : Int64))), .second, .val (.int (((iq &&& (2147483647 : Int32)) % (1000 : Int32)) + (1 : Int32))), .val (.ref b2), .unset, .unset, .unset, .unset, .unset, .unset, .unset, .unset]) rfl ?_
  refine g_new cx d0_52 (hw _ (List.mem_of_getElem? (i := 2) rfl)) (hw _ (List.mem_of_getElem? (i := 3) rfl)) (hw _ (List.mem_of_getElem? (i := 4) rfl)) (k' := 3) (n' := 68) rfl rfl (by decide) (by decide) (fun h10 b11 gb12 E13 X14 D15 => ?_)
  have g_b11 : Z.heap.size ≤ b11 := by rw [gb12]; exact OL.2.1
  have NEW := gb12
  have OL := OL.ext E13
  have _t := trivial
  have NG : ∀ z ∈ ws_b2, z ≠ _ := fun z hz => Nat.ne_of_lt (Nat.lt_of_lt_of_eq (LT_b2 z hz) NEW.symm)
  have HH_b2 := HH_b2.ext E13
  have LT_b2 := fun z hz => Nat.lt_of_lt_of_le (LT_b2 z hz) (E13).1
  have O_b2 := own_Hx HH_b2
  have O_b11 := ObH.new hw X14 D15
  refine g_dup cx d0_55 rfl ?_
  refine g_special cx (y := (⟨"com/example/oswego/oswego/RunTimeHistogram", "<init>", "()V"⟩ : MethodName)) (a := b11) d0_56 rfl rfl (hw _ (List.mem_of_getElem? (i := 5) rfl)) (hw _ (List.mem_of_getElem? (i := 6) rfl)) (hw _ (List.mem_of_getElem? (i := 4) rfl)) (hw _ (List.mem_of_getElem? (i := 7) rfl)) (by decide) (bytes := prog_19_method_1_code) (maxL' := 1) (M := (rmini l Z a0 hw b11 _ O_b11 g_b11 OL)) rfl (lenOf pd_8 rfl) (by decide) (W := 1) (Nat.le_of_eq rfl) (by decide) (k' := 4) (n' := 126) rfl rfl (by decide) (by decide) (argsL := []) (rest := [(.ref b11)]) rfl (fun v17 h16 q18 => ?_)
  obtain ⟨ws_b11, rfl, KI, WI, HH_b11⟩ := q18
  have OL := OL.keep KI (allS g_b11 all0)
  have HH_b2 := HH_b2.keep KI (fun z hz q => NG z hz (List.mem_singleton.mp q))
  have DJ_b2_b11 : ∀ z ∈ ws_b2, z ∉ ws_b11 := fun z hz q => (WI z q).elim (fun r => NG z hz (List.mem_singleton.mp r)) (fun r => absurd (LT_b2 z hz) (Nat.not_lt.mpr r.1))
  have DJ_b11_b2 : ∀ z ∈ ws_b11, z ∉ ws_b2 := fun z hz q => DJ_b2_b11 z q hz
  have LT_b2 := fun z hz => Nat.lt_of_lt_of_le (LT_b2 z hz) KI.1
  have O_b2 := own_Hx HH_b2
  have LT_b11 : ∀ z ∈ ws_b11, z < _ := fun z hz => (WI z hz).elim (fun q => by rw [List.mem_singleton.mp q]; exact own_Hlt HH_b11) And.right
  have O_b11 := own_Hx HH_b11
  refine G.cast (st' := [(.ref b11)]) ?_ rfl
  refine g_astore cx d0_59 rfl (Ls' := #[.val (.long ja), .second, .val (.long jc), .second, .val (.long jd), .second, .val (.long je), .second, .val (.int iq), .val (.int ig), .val (.long (ja &&& (9223372036854775807 : Int64))), .second, .val (.long (jc &&& (9223372036854775807 : Int64))), .second, .val (.long (jd &&& (9223372036854775807 : Int64))), .second, .val (.long (je &&& (9223372036854775807 : Int64))), .second, .val (.int (((iq &&& (2147483647 : Int32)) % (1000 : Int32)) + (1 : Int32))), .val (.ref b2), .val (.ref b11), .unset, .unset, .unset, .unset, .unset, .unset, .unset]) rfl ?_
  refine g_iload cx d0_61 rfl ?_
  refine g_iconst cx d0_63 (v := (1 : Int32)) rfl ?_
  refine g_iand cx d0_64 ?_
  refine g_if_eq cx d0_65 (fun hc65 => ?_) (fun hc65 => ?_)
  · refine g_aload cx d0_75 rfl rfl ?_
    refine g_virtual cx (y := (⟨"com/example/oswego/oswego/RunTimeHistogram", "clear", "()V"⟩ : MethodName)) (z := (⟨"com/example/oswego/oswego/RunTimeHistogram", "clear", "()V"⟩ : MethodName)) (a := b2) d0_77 (hw _ (List.mem_of_getElem? (i := 18) rfl)) (hw _ (List.mem_of_getElem? (i := 19) rfl)) (hw _ (List.mem_of_getElem? (i := 4) rfl)) (hw _ (List.mem_of_getElem? (i := 22) rfl)) (hw _ (List.mem_of_getElem? (i := 21) rfl)) (hw _ (List.mem_of_getElem? (i := 20) rfl)) rfl (by decide) O_b2.1 (bytes := prog_19_method_4_code) (maxL' := 5) (M := (rmclr l Z a0 hw b2 _ _ _ _ _ _ _ HH_b2 OL)) rfl (lenOf pd_8 rfl) (by decide) (W := 0) (Nat.le_of_eq rfl) (by decide) (k' := 4) (n' := 126) rfl rfl (by decide) (by decide) (argsL := []) (rest := []) rfl (fun v20 h19 q21 => ?_)
    obtain ⟨rfl, OL, KI, HH_b2⟩ := q21
    have HH_b11 := HH_b11.keep KI DJ_b11_b2
    have LT_b2 := fun z hz => Nat.lt_of_lt_of_le (LT_b2 z hz) KI.1
    have LT_b11 := fun z hz => Nat.lt_of_lt_of_le (LT_b11 z hz) KI.1
    have O_b2 := own_Hx HH_b2
    have O_b11 := own_Hx HH_b11
    refine G.cast (st' := []) ?_ rfl
    refine g_aload cx d0_80 rfl rfl ?_
    refine g_virtual cx (y := (⟨"com/example/oswego/oswego/RunTimeHistogram", "count", "()J"⟩ : MethodName)) (z := (⟨"com/example/oswego/oswego/RunTimeHistogram", "count", "()J"⟩ : MethodName)) (a := b2) d0_82 (hw _ (List.mem_of_getElem? (i := 29) rfl)) (hw _ (List.mem_of_getElem? (i := 30) rfl)) (hw _ (List.mem_of_getElem? (i := 4) rfl)) (hw _ (List.mem_of_getElem? (i := 33) rfl)) (hw _ (List.mem_of_getElem? (i := 32) rfl)) (hw _ (List.mem_of_getElem? (i := 31) rfl)) rfl (by decide) O_b2.1 (bytes := prog_19_method_5_code) (maxL' := 1) (M := (rmgcount l Z a0 hw b2 _ _ _ _ _ _ _ HH_b2 OL)) rfl (lenOf pd_9 rfl) (by decide) (W := 0) (Nat.le_of_eq rfl) (by decide) (k' := 4) (n' := 126) rfl rfl (by decide) (by decide) (argsL := []) (rest := []) rfl (fun v23 h22 q24 => ?_)
    obtain ⟨rfl, rfl⟩ := q24
    refine G.cast (st' := [(.long (0 : Int64))]) ?_ rfl
    refine g_lconst cx d0_85 (v := (0 : Int64)) rfl ?_
    refine g_lif_ne cx d0_86 d0_87 (fun q => absurd q (fun q => by revert q; decide)) (fun hc87 => ?_)
    refine g_aload cx d0_90 rfl rfl ?_
    refine g_virtual cx (y := (⟨"com/example/oswego/oswego/RunTimeHistogram", "max", "()J"⟩ : MethodName)) (z := (⟨"com/example/oswego/oswego/RunTimeHistogram", "max", "()J"⟩ : MethodName)) (a := b2) d0_92 (hw _ (List.mem_of_getElem? (i := 34) rfl)) (hw _ (List.mem_of_getElem? (i := 35) rfl)) (hw _ (List.mem_of_getElem? (i := 4) rfl)) (hw _ (List.mem_of_getElem? (i := 38) rfl)) (hw _ (List.mem_of_getElem? (i := 37) rfl)) (hw _ (List.mem_of_getElem? (i := 36) rfl)) rfl (by decide) O_b2.1 (bytes := prog_19_method_8_code) (maxL' := 1) (M := (rmgmax l Z a0 hw b2 _ _ _ _ _ _ _ HH_b2 OL)) rfl (lenOf pd_9 rfl) (by decide) (W := 0) (Nat.le_of_eq rfl) (by decide) (k' := 4) (n' := 126) rfl rfl (by decide) (by decide) (argsL := []) (rest := []) rfl (fun v26 h25 q27 => ?_)
    obtain ⟨rfl, rfl⟩ := q27
    refine G.cast (st' := [(.long (0 : Int64))]) ?_ rfl
    refine g_lconst cx d0_95 (v := (0 : Int64)) rfl ?_
    refine g_lif_ne cx d0_96 d0_97 (fun q => absurd q (fun q => by revert q; decide)) (fun hc97 => ?_)
    refine g_iconst cx d0_100 (v := (1 : Int32)) rfl ?_
    refine g_goto cx d0_101 ?_
    refine g_istore cx d0_105 (Ls' := #[.val (.long ja), .second, .val (.long jc), .second, .val (.long jd), .second, .val (.long je), .second, .val (.int iq), .val (.int ig), .val (.long (ja &&& (9223372036854775807 : Int64))), .second, .val (.long (jc &&& (9223372036854775807 : Int64))), .second, .val (.long (jd &&& (9223372036854775807 : Int64))), .second, .val (.long (je &&& (9223372036854775807 : Int64))), .second, .val (.int (((iq &&& (2147483647 : Int32)) % (1000 : Int32)) + (1 : Int32))), .val (.ref b2), .val (.ref b11), .val (.int (1 : Int32)), .unset, .unset, .unset, .unset, .unset, .unset]) rfl ?_
    refine g_aload cx d0_107 rfl rfl ?_
    refine g_lload cx d0_109 rfl ?_
    refine g_virtual cx (y := (⟨"com/example/oswego/oswego/RunTimeHistogram", "record", "(J)V"⟩ : MethodName)) (z := (⟨"com/example/oswego/oswego/RunTimeHistogram", "record", "(J)V"⟩ : MethodName)) (a := b2) d0_111 (hw _ (List.mem_of_getElem? (i := 39) rfl)) (hw _ (List.mem_of_getElem? (i := 40) rfl)) (hw _ (List.mem_of_getElem? (i := 4) rfl)) (hw _ (List.mem_of_getElem? (i := 43) rfl)) (hw _ (List.mem_of_getElem? (i := 42) rfl)) (hw _ (List.mem_of_getElem? (i := 41) rfl)) rfl (by decide) O_b2.1 (bytes := prog_19_method_2_code) (maxL' := 4) (M := (rmrec l Z a0 hw (jc &&& (9223372036854775807 : Int64)) (fun q => by have i_q : ((jc &&& (9223372036854775807 : Int64))).toInt < ((0 : Int64)).toInt := Int64.lt_iff_toInt_lt.mp q; have r2 := rng64 jc; have e1 : ((jc &&& (9223372036854775807 : Int64))).toInt = (jc).toInt % 9223372036854775808 := c_maskL jc (9223372036854775807 : Int64) 63 (by decide) (by decide); have e3 : (0 : Int64).toInt = 0 := rfl; omega) b2 _ _ _ _ _ _ _ HH_b2 OL)) rfl (lenOf pd_10 rfl) (by decide) (W := 0) (Nat.le_of_eq rfl) (by decide) (k' := 5) (n' := 190) rfl rfl (by decide) (by decide) (argsL := [(.long (jc &&& (9223372036854775807 : Int64)))]) (rest := []) rfl (fun v32 h31 q33 => ?_)
    obtain ⟨wsn30, rfl, OL, KI, WI, HH_b2, bd28, bd29⟩ := q33
    have HH_b11 := HH_b11.keep KI DJ_b11_b2
    have DJ' : ∀ z ∈ ws_b11, z ∉ wsn30 := fun z hz q => (WI z q).elim (DJ_b11_b2 z hz) (fun r => absurd (LT_b11 z hz) (Nat.not_lt.mpr r.1))
    have LT' : ∀ z ∈ wsn30, z < _ := fun z hz => (WI z hz).elim (fun q => Nat.lt_of_lt_of_le (LT_b2 z q) KI.1) And.right
    have LT_b11 := fun z hz => Nat.lt_of_lt_of_le (LT_b11 z hz) KI.1
    clear DJ_b11_b2 DJ_b2_b11 LT_b2
    clear KI WI
    have DJ_b11_b2 := DJ'
    have DJ_b2_b11 := fun z hz q => DJ' z q hz
    have LT_b2 := LT'
    have O_b2 := own_Hx HH_b2
    have O_b11 := own_Hx HH_b11
    have HH_b2 : own_H Z _ b2 _ _ _ (1 : Int64) _ _ := HH_b2
    refine G.cast (st' := []) ?_ rfl
    refine g_aload cx d0_114 rfl rfl ?_
    refine g_lload cx d0_116 rfl ?_
    refine g_virtual cx (y := (⟨"com/example/oswego/oswego/RunTimeHistogram", "record", "(J)V"⟩ : MethodName)) (z := (⟨"com/example/oswego/oswego/RunTimeHistogram", "record", "(J)V"⟩ : MethodName)) (a := b2) d0_118 (hw _ (List.mem_of_getElem? (i := 39) rfl)) (hw _ (List.mem_of_getElem? (i := 40) rfl)) (hw _ (List.mem_of_getElem? (i := 4) rfl)) (hw _ (List.mem_of_getElem? (i := 43) rfl)) (hw _ (List.mem_of_getElem? (i := 42) rfl)) (hw _ (List.mem_of_getElem? (i := 41) rfl)) rfl (by decide) O_b2.1 (bytes := prog_19_method_2_code) (maxL' := 4) (M := (rmrec l Z a0 hw (jd &&& (9223372036854775807 : Int64)) (fun q => by have i_q : ((jd &&& (9223372036854775807 : Int64))).toInt < ((0 : Int64)).toInt := Int64.lt_iff_toInt_lt.mp q; have r2 := rng64 jd; have e1 : ((jd &&& (9223372036854775807 : Int64))).toInt = (jd).toInt % 9223372036854775808 := c_maskL jd (9223372036854775807 : Int64) 63 (by decide) (by decide); have e3 : (0 : Int64).toInt = 0 := rfl; omega) b2 _ _ _ _ _ _ _ HH_b2 OL)) rfl (lenOf pd_10 rfl) (by decide) (W := 0) (Nat.le_of_eq rfl) (by decide) (k' := 6) (n' := 254) rfl rfl (by decide) (by decide) (argsL := [(.long (jd &&& (9223372036854775807 : Int64)))]) (rest := []) rfl (fun v38 h37 q39 => ?_)
    obtain ⟨wsn36, rfl, OL, KI, WI, HH_b2, bd34, bd35⟩ := q39
    have HH_b11 := HH_b11.keep KI DJ_b11_b2
    have DJ' : ∀ z ∈ ws_b11, z ∉ wsn36 := fun z hz q => (WI z q).elim (DJ_b11_b2 z hz) (fun r => absurd (LT_b11 z hz) (Nat.not_lt.mpr r.1))
    have LT' : ∀ z ∈ wsn36, z < _ := fun z hz => (WI z hz).elim (fun q => Nat.lt_of_lt_of_le (LT_b2 z q) KI.1) And.right
    have LT_b11 := fun z hz => Nat.lt_of_lt_of_le (LT_b11 z hz) KI.1
    clear DJ_b11_b2 DJ_b2_b11 LT_b2
    clear KI WI
    have DJ_b11_b2 := DJ'
    have DJ_b2_b11 := fun z hz q => DJ' z q hz
    have LT_b2 := LT'
    have O_b2 := own_Hx HH_b2
    have O_b11 := own_Hx HH_b11
    have HH_b2 : own_H Z _ b2 _ _ _ (2 : Int64) _ _ := HH_b2
    refine G.cast (st' := []) ?_ rfl
    refine g_aload cx d0_121 rfl rfl ?_
    refine g_lload cx d0_123 rfl ?_
    refine g_virtual cx (y := (⟨"com/example/oswego/oswego/RunTimeHistogram", "record", "(J)V"⟩ : MethodName)) (z := (⟨"com/example/oswego/oswego/RunTimeHistogram", "record", "(J)V"⟩ : MethodName)) (a := b2) d0_125 (hw _ (List.mem_of_getElem? (i := 39) rfl)) (hw _ (List.mem_of_getElem? (i := 40) rfl)) (hw _ (List.mem_of_getElem? (i := 4) rfl)) (hw _ (List.mem_of_getElem? (i := 43) rfl)) (hw _ (List.mem_of_getElem? (i := 42) rfl)) (hw _ (List.mem_of_getElem? (i := 41) rfl)) rfl (by decide) O_b2.1 (bytes := prog_19_method_2_code) (maxL' := 4) (M := (rmrec l Z a0 hw (je &&& (9223372036854775807 : Int64)) (fun q => by have i_q : ((je &&& (9223372036854775807 : Int64))).toInt < ((0 : Int64)).toInt := Int64.lt_iff_toInt_lt.mp q; have r2 := rng64 je; have e1 : ((je &&& (9223372036854775807 : Int64))).toInt = (je).toInt % 9223372036854775808 := c_maskL je (9223372036854775807 : Int64) 63 (by decide) (by decide); have e3 : (0 : Int64).toInt = 0 := rfl; omega) b2 _ _ _ _ _ _ _ HH_b2 OL)) rfl (lenOf pd_10 rfl) (by decide) (W := 0) (Nat.le_of_eq rfl) (by decide) (k' := 7) (n' := 318) rfl rfl (by decide) (by decide) (argsL := [(.long (je &&& (9223372036854775807 : Int64)))]) (rest := []) rfl (fun v44 h43 q45 => ?_)
    obtain ⟨wsn42, rfl, OL, KI, WI, HH_b2, bd40, bd41⟩ := q45
    have HH_b11 := HH_b11.keep KI DJ_b11_b2
    have DJ' : ∀ z ∈ ws_b11, z ∉ wsn42 := fun z hz q => (WI z q).elim (DJ_b11_b2 z hz) (fun r => absurd (LT_b11 z hz) (Nat.not_lt.mpr r.1))
    have LT' : ∀ z ∈ wsn42, z < _ := fun z hz => (WI z hz).elim (fun q => Nat.lt_of_lt_of_le (LT_b2 z q) KI.1) And.right
    have LT_b11 := fun z hz => Nat.lt_of_lt_of_le (LT_b11 z hz) KI.1
    clear DJ_b11_b2 DJ_b2_b11 LT_b2
    clear KI WI
    have DJ_b11_b2 := DJ'
    have DJ_b2_b11 := fun z hz q => DJ' z q hz
    have LT_b2 := LT'
    have O_b2 := own_Hx HH_b2
    have O_b11 := own_Hx HH_b11
    have HH_b2 : own_H Z _ b2 _ _ _ (3 : Int64) _ _ := HH_b2
    refine G.cast (st' := []) ?_ rfl
    refine g_aload cx d0_128 rfl rfl ?_
    refine g_lload cx d0_130 rfl ?_
    refine g_virtual cx (y := (⟨"com/example/oswego/oswego/RunTimeHistogram", "record", "(J)V"⟩ : MethodName)) (z := (⟨"com/example/oswego/oswego/RunTimeHistogram", "record", "(J)V"⟩ : MethodName)) (a := b11) d0_132 (hw _ (List.mem_of_getElem? (i := 39) rfl)) (hw _ (List.mem_of_getElem? (i := 40) rfl)) (hw _ (List.mem_of_getElem? (i := 4) rfl)) (hw _ (List.mem_of_getElem? (i := 43) rfl)) (hw _ (List.mem_of_getElem? (i := 42) rfl)) (hw _ (List.mem_of_getElem? (i := 41) rfl)) rfl (by decide) O_b11.1 (bytes := prog_19_method_2_code) (maxL' := 4) (M := (rmrec l Z a0 hw (jc &&& (9223372036854775807 : Int64)) (fun q => by have i_q : ((jc &&& (9223372036854775807 : Int64))).toInt < ((0 : Int64)).toInt := Int64.lt_iff_toInt_lt.mp q; have r2 := rng64 jc; have e1 : ((jc &&& (9223372036854775807 : Int64))).toInt = (jc).toInt % 9223372036854775808 := c_maskL jc (9223372036854775807 : Int64) 63 (by decide) (by decide); have e3 : (0 : Int64).toInt = 0 := rfl; omega) b11 _ _ _ _ _ _ _ HH_b11 OL)) rfl (lenOf pd_10 rfl) (by decide) (W := 0) (Nat.le_of_eq rfl) (by decide) (k' := 8) (n' := 382) rfl rfl (by decide) (by decide) (argsL := [(.long (jc &&& (9223372036854775807 : Int64)))]) (rest := []) rfl (fun v50 h49 q51 => ?_)
    obtain ⟨wsn48, rfl, OL, KI, WI, HH_b11, bd46, bd47⟩ := q51
    have HH_b2 := HH_b2.keep KI DJ_b2_b11
    have DJ' : ∀ z ∈ wsn42, z ∉ wsn48 := fun z hz q => (WI z q).elim (DJ_b2_b11 z hz) (fun r => absurd (LT_b2 z hz) (Nat.not_lt.mpr r.1))
    have LT' : ∀ z ∈ wsn48, z < _ := fun z hz => (WI z hz).elim (fun q => Nat.lt_of_lt_of_le (LT_b11 z q) KI.1) And.right
    have LT_b2 := fun z hz => Nat.lt_of_lt_of_le (LT_b2 z hz) KI.1
    clear DJ_b2_b11 DJ_b11_b2 LT_b11
    clear KI WI
    have DJ_b2_b11 := DJ'
    have DJ_b11_b2 := fun z hz q => DJ' z q hz
    have LT_b11 := LT'
    have O_b11 := own_Hx HH_b11
    have O_b2 := own_Hx HH_b2
    have HH_b11 : own_H Z _ b11 _ _ _ (1 : Int64) _ _ := HH_b11
    refine G.cast (st' := []) ?_ rfl
    refine g_aload cx d0_135 rfl rfl ?_
    refine g_lload cx d0_137 rfl ?_
    refine g_virtual cx (y := (⟨"com/example/oswego/oswego/RunTimeHistogram", "record", "(J)V"⟩ : MethodName)) (z := (⟨"com/example/oswego/oswego/RunTimeHistogram", "record", "(J)V"⟩ : MethodName)) (a := b11) d0_139 (hw _ (List.mem_of_getElem? (i := 39) rfl)) (hw _ (List.mem_of_getElem? (i := 40) rfl)) (hw _ (List.mem_of_getElem? (i := 4) rfl)) (hw _ (List.mem_of_getElem? (i := 43) rfl)) (hw _ (List.mem_of_getElem? (i := 42) rfl)) (hw _ (List.mem_of_getElem? (i := 41) rfl)) rfl (by decide) O_b11.1 (bytes := prog_19_method_2_code) (maxL' := 4) (M := (rmrec l Z a0 hw (jd &&& (9223372036854775807 : Int64)) (fun q => by have i_q : ((jd &&& (9223372036854775807 : Int64))).toInt < ((0 : Int64)).toInt := Int64.lt_iff_toInt_lt.mp q; have r2 := rng64 jd; have e1 : ((jd &&& (9223372036854775807 : Int64))).toInt = (jd).toInt % 9223372036854775808 := c_maskL jd (9223372036854775807 : Int64) 63 (by decide) (by decide); have e3 : (0 : Int64).toInt = 0 := rfl; omega) b11 _ _ _ _ _ _ _ HH_b11 OL)) rfl (lenOf pd_10 rfl) (by decide) (W := 0) (Nat.le_of_eq rfl) (by decide) (k' := 9) (n' := 446) rfl rfl (by decide) (by decide) (argsL := [(.long (jd &&& (9223372036854775807 : Int64)))]) (rest := []) rfl (fun v56 h55 q57 => ?_)
    obtain ⟨wsn54, rfl, OL, KI, WI, HH_b11, bd52, bd53⟩ := q57
    have HH_b2 := HH_b2.keep KI DJ_b2_b11
    have DJ' : ∀ z ∈ wsn42, z ∉ wsn54 := fun z hz q => (WI z q).elim (DJ_b2_b11 z hz) (fun r => absurd (LT_b2 z hz) (Nat.not_lt.mpr r.1))
    have LT' : ∀ z ∈ wsn54, z < _ := fun z hz => (WI z hz).elim (fun q => Nat.lt_of_lt_of_le (LT_b11 z q) KI.1) And.right
    have LT_b2 := fun z hz => Nat.lt_of_lt_of_le (LT_b2 z hz) KI.1
    clear DJ_b2_b11 DJ_b11_b2 LT_b11
    clear KI WI
    have DJ_b2_b11 := DJ'
    have DJ_b11_b2 := fun z hz q => DJ' z q hz
    have LT_b11 := LT'
    have O_b11 := own_Hx HH_b11
    have O_b2 := own_Hx HH_b2
    have HH_b11 : own_H Z _ b11 _ _ _ (2 : Int64) _ _ := HH_b11
    refine G.cast (st' := []) ?_ rfl
    refine g_aload cx d0_142 rfl rfl ?_
    refine g_lload cx d0_144 rfl ?_
    refine g_virtual cx (y := (⟨"com/example/oswego/oswego/RunTimeHistogram", "record", "(J)V"⟩ : MethodName)) (z := (⟨"com/example/oswego/oswego/RunTimeHistogram", "record", "(J)V"⟩ : MethodName)) (a := b11) d0_146 (hw _ (List.mem_of_getElem? (i := 39) rfl)) (hw _ (List.mem_of_getElem? (i := 40) rfl)) (hw _ (List.mem_of_getElem? (i := 4) rfl)) (hw _ (List.mem_of_getElem? (i := 43) rfl)) (hw _ (List.mem_of_getElem? (i := 42) rfl)) (hw _ (List.mem_of_getElem? (i := 41) rfl)) rfl (by decide) O_b11.1 (bytes := prog_19_method_2_code) (maxL' := 4) (M := (rmrec l Z a0 hw (je &&& (9223372036854775807 : Int64)) (fun q => by have i_q : ((je &&& (9223372036854775807 : Int64))).toInt < ((0 : Int64)).toInt := Int64.lt_iff_toInt_lt.mp q; have r2 := rng64 je; have e1 : ((je &&& (9223372036854775807 : Int64))).toInt = (je).toInt % 9223372036854775808 := c_maskL je (9223372036854775807 : Int64) 63 (by decide) (by decide); have e3 : (0 : Int64).toInt = 0 := rfl; omega) b11 _ _ _ _ _ _ _ HH_b11 OL)) rfl (lenOf pd_10 rfl) (by decide) (W := 0) (Nat.le_of_eq rfl) (by decide) (k' := 10) (n' := 510) rfl rfl (by decide) (by decide) (argsL := [(.long (je &&& (9223372036854775807 : Int64)))]) (rest := []) rfl (fun v62 h61 q63 => ?_)
    obtain ⟨wsn60, rfl, OL, KI, WI, HH_b11, bd58, bd59⟩ := q63
    have HH_b2 := HH_b2.keep KI DJ_b2_b11
    have DJ' : ∀ z ∈ wsn42, z ∉ wsn60 := fun z hz q => (WI z q).elim (DJ_b2_b11 z hz) (fun r => absurd (LT_b2 z hz) (Nat.not_lt.mpr r.1))
    have LT' : ∀ z ∈ wsn60, z < _ := fun z hz => (WI z hz).elim (fun q => Nat.lt_of_lt_of_le (LT_b11 z q) KI.1) And.right
    have LT_b2 := fun z hz => Nat.lt_of_lt_of_le (LT_b2 z hz) KI.1
    clear DJ_b2_b11 DJ_b11_b2 LT_b11
    clear KI WI
    have DJ_b2_b11 := DJ'
    have DJ_b11_b2 := fun z hz q => DJ' z q hz
    have LT_b11 := LT'
    have O_b11 := own_Hx HH_b11
    have O_b2 := own_Hx HH_b2
    have HH_b11 : own_H Z _ b11 _ _ _ (3 : Int64) _ _ := HH_b11
    obtain ⟨mm, hmm⟩ := own_ex bd46 bd47 bd52 bd53 bd58 bd59
    refine G.cast (st' := []) ?_ rfl
    refine g_lload cx d0_149 rfl ?_
    refine g_lload cx d0_151 rfl ?_
    refine g_lload cx d0_153 rfl ?_
    refine g_static cx (y := (⟨"java/lang/Math", "min", "(JJ)J"⟩ : MethodName)) d0_155 (hw _ (List.mem_of_getElem? (i := 74) rfl)) (hw _ (List.mem_of_getElem? (i := 69) rfl)) (hw _ (List.mem_of_getElem? (i := 58) rfl)) (hw _ (List.mem_of_getElem? (i := 70) rfl)) (by decide) (bytes := jdk_29_method_70_code) (maxL' := 4) (M := (rmnl l Z a0 hw _ _ _)) rfl (lenOf pd_4 rfl) (by decide) (W := 2) (Nat.le_of_eq rfl) (by decide) (k' := 10) (n' := 510) rfl rfl (by decide) (by decide) (argsL := [(.long (jd &&& (9223372036854775807 : Int64))), (.long (je &&& (9223372036854775807 : Int64)))]) (rest := [(.long (jc &&& (9223372036854775807 : Int64)))]) rfl (fun v65 h64 q66 => ?_)
    obtain ⟨rfl, rfl⟩ := q66
    refine G.cast (st' := [(.long (own_min (jd &&& (9223372036854775807 : Int64)) (je &&& (9223372036854775807 : Int64)))), (.long (jc &&& (9223372036854775807 : Int64)))]) ?_ rfl
    refine g_static cx (y := (⟨"java/lang/Math", "min", "(JJ)J"⟩ : MethodName)) d0_158 (hw _ (List.mem_of_getElem? (i := 74) rfl)) (hw _ (List.mem_of_getElem? (i := 69) rfl)) (hw _ (List.mem_of_getElem? (i := 58) rfl)) (hw _ (List.mem_of_getElem? (i := 70) rfl)) (by decide) (bytes := jdk_29_method_70_code) (maxL' := 4) (M := (rmnl l Z a0 hw _ _ _)) rfl (lenOf pd_4 rfl) (by decide) (W := 0) (Nat.le_of_eq rfl) (by decide) (k' := 10) (n' := 510) rfl rfl (by decide) (by decide) (argsL := [(.long (jc &&& (9223372036854775807 : Int64))), (.long (own_min (jd &&& (9223372036854775807 : Int64)) (je &&& (9223372036854775807 : Int64))))]) (rest := []) rfl (fun v68 h67 q69 => ?_)
    obtain ⟨rfl, rfl⟩ := q69
    refine G.cast (st' := [(.long (own_min (jc &&& (9223372036854775807 : Int64)) (own_min (jd &&& (9223372036854775807 : Int64)) (je &&& (9223372036854775807 : Int64)))))]) ?_ rfl
    refine g_lstore cx d0_161 (Ls' := #[.val (.long ja), .second, .val (.long jc), .second, .val (.long jd), .second, .val (.long je), .second, .val (.int iq), .val (.int ig), .val (.long (ja &&& (9223372036854775807 : Int64))), .second, .val (.long (jc &&& (9223372036854775807 : Int64))), .second, .val (.long (jd &&& (9223372036854775807 : Int64))), .second, .val (.long (je &&& (9223372036854775807 : Int64))), .second, .val (.int (((iq &&& (2147483647 : Int32)) % (1000 : Int32)) + (1 : Int32))), .val (.ref b2), .val (.ref b11), .val (.int (1 : Int32)), .val (.long (own_min (jc &&& (9223372036854775807 : Int64)) (own_min (jd &&& (9223372036854775807 : Int64)) (je &&& (9223372036854775807 : Int64))))), .second, .unset, .unset, .unset, .unset]) rfl ?_
    refine g_lload cx d0_163 rfl ?_
    refine g_lload cx d0_165 rfl ?_
    refine g_lload cx d0_167 rfl ?_
    refine g_static cx (y := (⟨"java/lang/Math", "max", "(JJ)J"⟩ : MethodName)) d0_169 (hw _ (List.mem_of_getElem? (i := 75) rfl)) (hw _ (List.mem_of_getElem? (i := 72) rfl)) (hw _ (List.mem_of_getElem? (i := 58) rfl)) (hw _ (List.mem_of_getElem? (i := 73) rfl)) (by decide) (bytes := jdk_29_method_66_code) (maxL' := 4) (M := (rmxl l Z a0 hw _ _ _)) rfl (lenOf pd_4 rfl) (by decide) (W := 2) (Nat.le_of_eq rfl) (by decide) (k' := 10) (n' := 510) rfl rfl (by decide) (by decide) (argsL := [(.long (jd &&& (9223372036854775807 : Int64))), (.long (je &&& (9223372036854775807 : Int64)))]) (rest := [(.long (jc &&& (9223372036854775807 : Int64)))]) rfl (fun v71 h70 q72 => ?_)
    obtain ⟨rfl, rfl⟩ := q72
    refine G.cast (st' := [(.long (own_max (jd &&& (9223372036854775807 : Int64)) (je &&& (9223372036854775807 : Int64)))), (.long (jc &&& (9223372036854775807 : Int64)))]) ?_ rfl
    refine g_static cx (y := (⟨"java/lang/Math", "max", "(JJ)J"⟩ : MethodName)) d0_172 (hw _ (List.mem_of_getElem? (i := 75) rfl)) (hw _ (List.mem_of_getElem? (i := 72) rfl)) (hw _ (List.mem_of_getElem? (i := 58) rfl)) (hw _ (List.mem_of_getElem? (i := 73) rfl)) (by decide) (bytes := jdk_29_method_66_code) (maxL' := 4) (M := (rmxl l Z a0 hw _ _ _)) rfl (lenOf pd_4 rfl) (by decide) (W := 0) (Nat.le_of_eq rfl) (by decide) (k' := 10) (n' := 510) rfl rfl (by decide) (by decide) (argsL := [(.long (jc &&& (9223372036854775807 : Int64))), (.long (own_max (jd &&& (9223372036854775807 : Int64)) (je &&& (9223372036854775807 : Int64))))]) (rest := []) rfl (fun v74 h73 q75 => ?_)
    obtain ⟨rfl, rfl⟩ := q75
    refine G.cast (st' := [(.long (own_max (jc &&& (9223372036854775807 : Int64)) (own_max (jd &&& (9223372036854775807 : Int64)) (je &&& (9223372036854775807 : Int64)))))]) ?_ rfl
    refine g_lstore cx d0_175 (Ls' := #[.val (.long ja), .second, .val (.long jc), .second, .val (.long jd), .second, .val (.long je), .second, .val (.int iq), .val (.int ig), .val (.long (ja &&& (9223372036854775807 : Int64))), .second, .val (.long (jc &&& (9223372036854775807 : Int64))), .second, .val (.long (jd &&& (9223372036854775807 : Int64))), .second, .val (.long (je &&& (9223372036854775807 : Int64))), .second, .val (.int (((iq &&& (2147483647 : Int32)) % (1000 : Int32)) + (1 : Int32))), .val (.ref b2), .val (.ref b11), .val (.int (1 : Int32)), .val (.long (own_min (jc &&& (9223372036854775807 : Int64)) (own_min (jd &&& (9223372036854775807 : Int64)) (je &&& (9223372036854775807 : Int64))))), .second, .val (.long (own_max (jc &&& (9223372036854775807 : Int64)) (own_max (jd &&& (9223372036854775807 : Int64)) (je &&& (9223372036854775807 : Int64))))), .second, .unset, .unset]) rfl ?_
    refine g_aload cx d0_177 rfl rfl ?_
    refine g_virtual cx (y := (⟨"com/example/oswego/oswego/RunTimeHistogram", "count", "()J"⟩ : MethodName)) (z := (⟨"com/example/oswego/oswego/RunTimeHistogram", "count", "()J"⟩ : MethodName)) (a := b2) d0_179 (hw _ (List.mem_of_getElem? (i := 29) rfl)) (hw _ (List.mem_of_getElem? (i := 30) rfl)) (hw _ (List.mem_of_getElem? (i := 4) rfl)) (hw _ (List.mem_of_getElem? (i := 33) rfl)) (hw _ (List.mem_of_getElem? (i := 32) rfl)) (hw _ (List.mem_of_getElem? (i := 31) rfl)) rfl (by decide) O_b2.1 (bytes := prog_19_method_5_code) (maxL' := 1) (M := (rmgcount l Z a0 hw b2 _ _ _ _ _ _ _ HH_b2 OL)) rfl (lenOf pd_9 rfl) (by decide) (W := 0) (Nat.le_of_eq rfl) (by decide) (k' := 10) (n' := 510) rfl rfl (by decide) (by decide) (argsL := []) (rest := []) rfl (fun v77 h76 q78 => ?_)
    obtain ⟨rfl, rfl⟩ := q78
    refine G.cast (st' := [(.long (3 : Int64))]) ?_ rfl
    refine g_ldcJ cx d0_182 (hw _ (List.mem_of_getElem? (i := 76) rfl)) ?_
    refine g_lif_ne cx d0_185 d0_186 (fun q => absurd q (fun q => by revert q; decide)) (fun hc186 => ?_)
    refine g_aload cx d0_189 rfl rfl ?_
    refine g_virtual cx (y := (⟨"com/example/oswego/oswego/RunTimeHistogram", "sum", "()J"⟩ : MethodName)) (z := (⟨"com/example/oswego/oswego/RunTimeHistogram", "sum", "()J"⟩ : MethodName)) (a := b2) d0_191 (hw _ (List.mem_of_getElem? (i := 77) rfl)) (hw _ (List.mem_of_getElem? (i := 78) rfl)) (hw _ (List.mem_of_getElem? (i := 4) rfl)) (hw _ (List.mem_of_getElem? (i := 81) rfl)) (hw _ (List.mem_of_getElem? (i := 80) rfl)) (hw _ (List.mem_of_getElem? (i := 79) rfl)) rfl (by decide) O_b2.1 (bytes := prog_19_method_6_code) (maxL' := 1) (M := (rmgsum l Z a0 hw b2 _ _ _ _ _ _ _ HH_b2 OL)) rfl (lenOf pd_9 rfl) (by decide) (W := 0) (Nat.le_of_eq rfl) (by decide) (k' := 10) (n' := 510) rfl rfl (by decide) (by decide) (argsL := []) (rest := []) rfl (fun v80 h79 q81 => ?_)
    obtain ⟨rfl, rfl⟩ := q81
    refine G.cast (st' := [(.long ((((0 : Int64) + (jc &&& (9223372036854775807 : Int64))) + (jd &&& (9223372036854775807 : Int64))) + (je &&& (9223372036854775807 : Int64))))]) ?_ rfl
    refine g_lload cx d0_194 rfl ?_
    refine g_lload cx d0_196 rfl ?_
    refine g_ladd cx d0_198 ?_
    refine g_lload cx d0_199 rfl ?_
    refine g_ladd cx d0_201 ?_
    refine g_lif_ne cx d0_202 d0_203 (fun q => absurd q (fun q => by have i_q : ¬ (((((0 : Int64) + (jc &&& (9223372036854775807 : Int64))) + (jd &&& (9223372036854775807 : Int64))) + (je &&& (9223372036854775807 : Int64)))).toInt = ((((jc &&& (9223372036854775807 : Int64)) + (jd &&& (9223372036854775807 : Int64))) + (je &&& (9223372036854775807 : Int64)))).toInt := fun z => q (Int64.toInt_inj.mp z); have e4 : (0 : Int64).toInt = 0 := rfl; have r6 := rng64 jc; have e5 : ((jc &&& (9223372036854775807 : Int64))).toInt = (jc).toInt % 9223372036854775808 := c_maskL jc (9223372036854775807 : Int64) 63 (by decide) (by decide); have e3 := c_ladd (0 : Int64) (jc &&& (9223372036854775807 : Int64)); have r3 := rng64 ((0 : Int64) + (jc &&& (9223372036854775807 : Int64))); have r8 := rng64 jd; have e7 : ((jd &&& (9223372036854775807 : Int64))).toInt = (jd).toInt % 9223372036854775808 := c_maskL jd (9223372036854775807 : Int64) 63 (by decide) (by decide); have e2 := c_ladd ((0 : Int64) + (jc &&& (9223372036854775807 : Int64))) (jd &&& (9223372036854775807 : Int64)); have r2 := rng64 (((0 : Int64) + (jc &&& (9223372036854775807 : Int64))) + (jd &&& (9223372036854775807 : Int64))); have r10 := rng64 je; have e9 : ((je &&& (9223372036854775807 : Int64))).toInt = (je).toInt % 9223372036854775808 := c_maskL je (9223372036854775807 : Int64) 63 (by decide) (by decide); have e1 := c_ladd (((0 : Int64) + (jc &&& (9223372036854775807 : Int64))) + (jd &&& (9223372036854775807 : Int64))) (je &&& (9223372036854775807 : Int64)); have r1 := rng64 ((((0 : Int64) + (jc &&& (9223372036854775807 : Int64))) + (jd &&& (9223372036854775807 : Int64))) + (je &&& (9223372036854775807 : Int64))); have e12 := c_ladd (jc &&& (9223372036854775807 : Int64)) (jd &&& (9223372036854775807 : Int64)); have r12 := rng64 ((jc &&& (9223372036854775807 : Int64)) + (jd &&& (9223372036854775807 : Int64))); have e11 := c_ladd ((jc &&& (9223372036854775807 : Int64)) + (jd &&& (9223372036854775807 : Int64))) (je &&& (9223372036854775807 : Int64)); have r11 := rng64 (((jc &&& (9223372036854775807 : Int64)) + (jd &&& (9223372036854775807 : Int64))) + (je &&& (9223372036854775807 : Int64))); omega)) (fun hc203 => ?_)
    refine g_aload cx d0_206 rfl rfl ?_
    refine g_virtual cx (y := (⟨"com/example/oswego/oswego/RunTimeHistogram", "min", "()J"⟩ : MethodName)) (z := (⟨"com/example/oswego/oswego/RunTimeHistogram", "min", "()J"⟩ : MethodName)) (a := b2) d0_208 (hw _ (List.mem_of_getElem? (i := 82) rfl)) (hw _ (List.mem_of_getElem? (i := 83) rfl)) (hw _ (List.mem_of_getElem? (i := 4) rfl)) (hw _ (List.mem_of_getElem? (i := 86) rfl)) (hw _ (List.mem_of_getElem? (i := 85) rfl)) (hw _ (List.mem_of_getElem? (i := 84) rfl)) rfl (by decide) O_b2.1 (bytes := prog_19_method_7_code) (maxL' := 1) (M := (rmgmin l Z a0 hw b2 _ _ _ _ _ _ _ HH_b2 OL)) rfl (lenOf pd_9 rfl) (by decide) (W := 0) (Nat.le_of_eq rfl) (by decide) (k' := 10) (n' := 510) rfl rfl (by decide) (by decide) (argsL := []) (rest := []) rfl (fun v83 h82 q84 => ?_)
    obtain ⟨rfl, rfl⟩ := q84
    refine G.cast (st' := [(.long (own_mv (3 : Int64) (own_min (own_min (own_min (9223372036854775807 : Int64) (jc &&& (9223372036854775807 : Int64))) (jd &&& (9223372036854775807 : Int64))) (je &&& (9223372036854775807 : Int64)))))]) ?_ rfl
    refine g_lload cx d0_211 rfl ?_
    refine g_lif_ne cx d0_213 d0_214 (fun q => absurd q (fun q => by have i_q : ¬ ((own_mv (3 : Int64) (own_min (own_min (own_min (9223372036854775807 : Int64) (jc &&& (9223372036854775807 : Int64))) (jd &&& (9223372036854775807 : Int64))) (je &&& (9223372036854775807 : Int64))))).toInt = ((own_min (jc &&& (9223372036854775807 : Int64)) (own_min (jd &&& (9223372036854775807 : Int64)) (je &&& (9223372036854775807 : Int64))))).toInt := fun z => q (Int64.toInt_inj.mp z); have r1 := rng64 (own_mv (3 : Int64) (own_min (own_min (own_min (9223372036854775807 : Int64) (jc &&& (9223372036854775807 : Int64))) (jd &&& (9223372036854775807 : Int64))) (je &&& (9223372036854775807 : Int64)))); have r2 := rng64 (own_min (jc &&& (9223372036854775807 : Int64)) (own_min (jd &&& (9223372036854775807 : Int64)) (je &&& (9223372036854775807 : Int64)))); have e3 : (9223372036854775807 : Int64).toInt = 9223372036854775807 := rfl; have r5 := rng64 jc; have e4 : ((jc &&& (9223372036854775807 : Int64))).toInt = (jc).toInt % 9223372036854775808 := c_maskL jc (9223372036854775807 : Int64) 63 (by decide) (by decide); have r6 := rng64 (own_min (9223372036854775807 : Int64) (jc &&& (9223372036854775807 : Int64))); have r8 := rng64 jd; have e7 : ((jd &&& (9223372036854775807 : Int64))).toInt = (jd).toInt % 9223372036854775808 := c_maskL jd (9223372036854775807 : Int64) 63 (by decide) (by decide); have r9 := rng64 (own_min (own_min (9223372036854775807 : Int64) (jc &&& (9223372036854775807 : Int64))) (jd &&& (9223372036854775807 : Int64))); have r11 := rng64 je; have e10 : ((je &&& (9223372036854775807 : Int64))).toInt = (je).toInt % 9223372036854775808 := c_maskL je (9223372036854775807 : Int64) 63 (by decide) (by decide); have r12 := rng64 (own_min (own_min (own_min (9223372036854775807 : Int64) (jc &&& (9223372036854775807 : Int64))) (jd &&& (9223372036854775807 : Int64))) (je &&& (9223372036854775807 : Int64))); have r13 := rng64 (own_min (jd &&& (9223372036854775807 : Int64)) (je &&& (9223372036854775807 : Int64))); have := own_min_t (9223372036854775807 : Int64) (jc &&& (9223372036854775807 : Int64)); have := own_min_t (own_min (9223372036854775807 : Int64) (jc &&& (9223372036854775807 : Int64))) (jd &&& (9223372036854775807 : Int64)); have := own_min_t (own_min (own_min (9223372036854775807 : Int64) (jc &&& (9223372036854775807 : Int64))) (jd &&& (9223372036854775807 : Int64))) (je &&& (9223372036854775807 : Int64)); have mv : ((own_mv (3 : Int64) (own_min (own_min (own_min (9223372036854775807 : Int64) (jc &&& (9223372036854775807 : Int64))) (jd &&& (9223372036854775807 : Int64))) (je &&& (9223372036854775807 : Int64))))).toInt = ((own_min (own_min (own_min (9223372036854775807 : Int64) (jc &&& (9223372036854775807 : Int64))) (jd &&& (9223372036854775807 : Int64))) (je &&& (9223372036854775807 : Int64)))).toInt := (by rw [own_mv, if_neg (by decide)]); have := own_min_t (jd &&& (9223372036854775807 : Int64)) (je &&& (9223372036854775807 : Int64)); have := own_min_t (jc &&& (9223372036854775807 : Int64)) (own_min (jd &&& (9223372036854775807 : Int64)) (je &&& (9223372036854775807 : Int64))); omega)) (fun hc214 => ?_)
    refine g_aload cx d0_217 rfl rfl ?_
    refine g_virtual cx (y := (⟨"com/example/oswego/oswego/RunTimeHistogram", "max", "()J"⟩ : MethodName)) (z := (⟨"com/example/oswego/oswego/RunTimeHistogram", "max", "()J"⟩ : MethodName)) (a := b2) d0_219 (hw _ (List.mem_of_getElem? (i := 34) rfl)) (hw _ (List.mem_of_getElem? (i := 35) rfl)) (hw _ (List.mem_of_getElem? (i := 4) rfl)) (hw _ (List.mem_of_getElem? (i := 38) rfl)) (hw _ (List.mem_of_getElem? (i := 37) rfl)) (hw _ (List.mem_of_getElem? (i := 36) rfl)) rfl (by decide) O_b2.1 (bytes := prog_19_method_8_code) (maxL' := 1) (M := (rmgmax l Z a0 hw b2 _ _ _ _ _ _ _ HH_b2 OL)) rfl (lenOf pd_9 rfl) (by decide) (W := 0) (Nat.le_of_eq rfl) (by decide) (k' := 10) (n' := 510) rfl rfl (by decide) (by decide) (argsL := []) (rest := []) rfl (fun v86 h85 q87 => ?_)
    obtain ⟨rfl, rfl⟩ := q87
    refine G.cast (st' := [(.long (own_max (own_max (own_max (0 : Int64) (jc &&& (9223372036854775807 : Int64))) (jd &&& (9223372036854775807 : Int64))) (je &&& (9223372036854775807 : Int64))))]) ?_ rfl
    refine g_lload cx d0_222 rfl ?_
    refine g_lif_ne cx d0_224 d0_225 (fun q => absurd q (fun q => by have i_q : ¬ ((own_max (own_max (own_max (0 : Int64) (jc &&& (9223372036854775807 : Int64))) (jd &&& (9223372036854775807 : Int64))) (je &&& (9223372036854775807 : Int64)))).toInt = ((own_max (jc &&& (9223372036854775807 : Int64)) (own_max (jd &&& (9223372036854775807 : Int64)) (je &&& (9223372036854775807 : Int64))))).toInt := fun z => q (Int64.toInt_inj.mp z); have r1 := rng64 (own_max (own_max (own_max (0 : Int64) (jc &&& (9223372036854775807 : Int64))) (jd &&& (9223372036854775807 : Int64))) (je &&& (9223372036854775807 : Int64))); have r2 := rng64 (own_max (jc &&& (9223372036854775807 : Int64)) (own_max (jd &&& (9223372036854775807 : Int64)) (je &&& (9223372036854775807 : Int64)))); have e3 : (0 : Int64).toInt = 0 := rfl; have r5 := rng64 jc; have e4 : ((jc &&& (9223372036854775807 : Int64))).toInt = (jc).toInt % 9223372036854775808 := c_maskL jc (9223372036854775807 : Int64) 63 (by decide) (by decide); have r6 := rng64 (own_max (0 : Int64) (jc &&& (9223372036854775807 : Int64))); have r8 := rng64 jd; have e7 : ((jd &&& (9223372036854775807 : Int64))).toInt = (jd).toInt % 9223372036854775808 := c_maskL jd (9223372036854775807 : Int64) 63 (by decide) (by decide); have r9 := rng64 (own_max (own_max (0 : Int64) (jc &&& (9223372036854775807 : Int64))) (jd &&& (9223372036854775807 : Int64))); have r11 := rng64 je; have e10 : ((je &&& (9223372036854775807 : Int64))).toInt = (je).toInt % 9223372036854775808 := c_maskL je (9223372036854775807 : Int64) 63 (by decide) (by decide); have r12 := rng64 (own_max (jd &&& (9223372036854775807 : Int64)) (je &&& (9223372036854775807 : Int64))); have := own_max_t (0 : Int64) (jc &&& (9223372036854775807 : Int64)); have := own_max_t (own_max (0 : Int64) (jc &&& (9223372036854775807 : Int64))) (jd &&& (9223372036854775807 : Int64)); have := own_max_t (own_max (own_max (0 : Int64) (jc &&& (9223372036854775807 : Int64))) (jd &&& (9223372036854775807 : Int64))) (je &&& (9223372036854775807 : Int64)); have := own_max_t (jd &&& (9223372036854775807 : Int64)) (je &&& (9223372036854775807 : Int64)); have := own_max_t (jc &&& (9223372036854775807 : Int64)) (own_max (jd &&& (9223372036854775807 : Int64)) (je &&& (9223372036854775807 : Int64))); omega)) (fun hc225 => ?_)
    refine g_iconst cx d0_228 (v := (1 : Int32)) rfl ?_
    refine g_goto cx d0_229 ?_
    refine g_istore cx d0_233 (Ls' := #[.val (.long ja), .second, .val (.long jc), .second, .val (.long jd), .second, .val (.long je), .second, .val (.int iq), .val (.int ig), .val (.long (ja &&& (9223372036854775807 : Int64))), .second, .val (.long (jc &&& (9223372036854775807 : Int64))), .second, .val (.long (jd &&& (9223372036854775807 : Int64))), .second, .val (.long (je &&& (9223372036854775807 : Int64))), .second, .val (.int (((iq &&& (2147483647 : Int32)) % (1000 : Int32)) + (1 : Int32))), .val (.ref b2), .val (.ref b11), .val (.int (1 : Int32)), .val (.long (own_min (jc &&& (9223372036854775807 : Int64)) (own_min (jd &&& (9223372036854775807 : Int64)) (je &&& (9223372036854775807 : Int64))))), .second, .val (.long (own_max (jc &&& (9223372036854775807 : Int64)) (own_max (jd &&& (9223372036854775807 : Int64)) (je &&& (9223372036854775807 : Int64))))), .second, .val (.int (1 : Int32)), .unset]) rfl ?_
    refine g_aload cx d0_235 rfl rfl ?_
    refine g_iload cx d0_237 rfl ?_
    refine g_virtual cx (y := (⟨"com/example/oswego/oswego/RunTimeHistogram", "percentile", "(I)J"⟩ : MethodName)) (z := (⟨"com/example/oswego/oswego/RunTimeHistogram", "percentile", "(I)J"⟩ : MethodName)) (a := b2) d0_239 (hw _ (List.mem_of_getElem? (i := 87) rfl)) (hw _ (List.mem_of_getElem? (i := 88) rfl)) (hw _ (List.mem_of_getElem? (i := 4) rfl)) (hw _ (List.mem_of_getElem? (i := 91) rfl)) (hw _ (List.mem_of_getElem? (i := 90) rfl)) (hw _ (List.mem_of_getElem? (i := 89) rfl)) rfl (by decide) O_b2.1 (bytes := prog_19_method_9_code) (maxL' := 6) (M := (rmpe l Z a0 hw (((iq &&& (2147483647 : Int32)) % (1000 : Int32)) + (1 : Int32)) (fun q => by have i_q : ((((iq &&& (2147483647 : Int32)) % (1000 : Int32)) + (1 : Int32))).toInt < ((1 : Int32)).toInt := Int32.lt_iff_toInt_lt.mp q; have r4 := rng32 iq; have e3 : ((iq &&& (2147483647 : Int32))).toInt = (iq).toInt % 2147483648 := c_mask iq (2147483647 : Int32) 31 (by decide) (by decide); have e2 : (0 ≤ ((iq &&& (2147483647 : Int32))).toInt → (((iq &&& (2147483647 : Int32)) % (1000 : Int32))).toInt = ((iq &&& (2147483647 : Int32))).toInt % 1000) ∧ (((iq &&& (2147483647 : Int32))).toInt < 0 → (((iq &&& (2147483647 : Int32)) % (1000 : Int32))).toInt = -((-((iq &&& (2147483647 : Int32))).toInt) % 1000)) := c_irem (iq &&& (2147483647 : Int32)) (1000 : Int32) 1000 rfl; have e5 : (1 : Int32).toInt = 1 := rfl; have e1 := c_iadd ((iq &&& (2147483647 : Int32)) % (1000 : Int32)) (1 : Int32); have r1 := rng32 (((iq &&& (2147483647 : Int32)) % (1000 : Int32)) + (1 : Int32)); omega) (Decidable.byContradiction fun q => by have i_q : ¬ ((((iq &&& (2147483647 : Int32)) % (1000 : Int32)) + (1 : Int32))).toInt < ((1001 : Int32)).toInt := fun z => q (Int32.lt_iff_toInt_lt.mpr z); have r4 := rng32 iq; have e3 : ((iq &&& (2147483647 : Int32))).toInt = (iq).toInt % 2147483648 := c_mask iq (2147483647 : Int32) 31 (by decide) (by decide); have e2 : (0 ≤ ((iq &&& (2147483647 : Int32))).toInt → (((iq &&& (2147483647 : Int32)) % (1000 : Int32))).toInt = ((iq &&& (2147483647 : Int32))).toInt % 1000) ∧ (((iq &&& (2147483647 : Int32))).toInt < 0 → (((iq &&& (2147483647 : Int32)) % (1000 : Int32))).toInt = -((-((iq &&& (2147483647 : Int32))).toInt) % 1000)) := c_irem (iq &&& (2147483647 : Int32)) (1000 : Int32) 1000 rfl; have e5 : (1 : Int32).toInt = 1 := rfl; have e1 := c_iadd ((iq &&& (2147483647 : Int32)) % (1000 : Int32)) (1 : Int32); have r1 := rng32 (((iq &&& (2147483647 : Int32)) % (1000 : Int32)) + (1 : Int32)); have e6 : (1001 : Int32).toInt = 1001 := rfl; omega) mm b2 _ _ _ _ _ _ HH_b2 OL hmm)) rfl (lenOf pd_11 rfl) (by decide) (W := 0) (Nat.le_of_eq rfl) (by decide) (k' := 10) (n' := 510) rfl rfl (by decide) (by decide) (argsL := [(.int (((iq &&& (2147483647 : Int32)) % (1000 : Int32)) + (1 : Int32)))]) (rest := []) rfl (fun v89 h88 q90 => ?_)
    obtain ⟨rfl, rfl⟩ := q90
    refine G.cast (st' := [(.long (own_pc (own_min (own_min (own_min (9223372036854775807 : Int64) (jc &&& (9223372036854775807 : Int64))) (jd &&& (9223372036854775807 : Int64))) (je &&& (9223372036854775807 : Int64))) (own_max (own_max (own_max (0 : Int64) (jc &&& (9223372036854775807 : Int64))) (jd &&& (9223372036854775807 : Int64))) (je &&& (9223372036854775807 : Int64))) mm (((iq &&& (2147483647 : Int32)) % (1000 : Int32)) + (1 : Int32))))]) ?_ rfl
    refine g_aload cx d0_242 rfl rfl ?_
    refine g_iload cx d0_244 rfl ?_
    refine g_virtual cx (y := (⟨"com/example/oswego/oswego/RunTimeHistogram", "percentile", "(I)J"⟩ : MethodName)) (z := (⟨"com/example/oswego/oswego/RunTimeHistogram", "percentile", "(I)J"⟩ : MethodName)) (a := b11) d0_246 (hw _ (List.mem_of_getElem? (i := 87) rfl)) (hw _ (List.mem_of_getElem? (i := 88) rfl)) (hw _ (List.mem_of_getElem? (i := 4) rfl)) (hw _ (List.mem_of_getElem? (i := 91) rfl)) (hw _ (List.mem_of_getElem? (i := 90) rfl)) (hw _ (List.mem_of_getElem? (i := 89) rfl)) rfl (by decide) O_b11.1 (bytes := prog_19_method_9_code) (maxL' := 6) (M := (rmpe l Z a0 hw (((iq &&& (2147483647 : Int32)) % (1000 : Int32)) + (1 : Int32)) (fun q => by have i_q : ((((iq &&& (2147483647 : Int32)) % (1000 : Int32)) + (1 : Int32))).toInt < ((1 : Int32)).toInt := Int32.lt_iff_toInt_lt.mp q; have r4 := rng32 iq; have e3 : ((iq &&& (2147483647 : Int32))).toInt = (iq).toInt % 2147483648 := c_mask iq (2147483647 : Int32) 31 (by decide) (by decide); have e2 : (0 ≤ ((iq &&& (2147483647 : Int32))).toInt → (((iq &&& (2147483647 : Int32)) % (1000 : Int32))).toInt = ((iq &&& (2147483647 : Int32))).toInt % 1000) ∧ (((iq &&& (2147483647 : Int32))).toInt < 0 → (((iq &&& (2147483647 : Int32)) % (1000 : Int32))).toInt = -((-((iq &&& (2147483647 : Int32))).toInt) % 1000)) := c_irem (iq &&& (2147483647 : Int32)) (1000 : Int32) 1000 rfl; have e5 : (1 : Int32).toInt = 1 := rfl; have e1 := c_iadd ((iq &&& (2147483647 : Int32)) % (1000 : Int32)) (1 : Int32); have r1 := rng32 (((iq &&& (2147483647 : Int32)) % (1000 : Int32)) + (1 : Int32)); omega) (Decidable.byContradiction fun q => by have i_q : ¬ ((((iq &&& (2147483647 : Int32)) % (1000 : Int32)) + (1 : Int32))).toInt < ((1001 : Int32)).toInt := fun z => q (Int32.lt_iff_toInt_lt.mpr z); have r4 := rng32 iq; have e3 : ((iq &&& (2147483647 : Int32))).toInt = (iq).toInt % 2147483648 := c_mask iq (2147483647 : Int32) 31 (by decide) (by decide); have e2 : (0 ≤ ((iq &&& (2147483647 : Int32))).toInt → (((iq &&& (2147483647 : Int32)) % (1000 : Int32))).toInt = ((iq &&& (2147483647 : Int32))).toInt % 1000) ∧ (((iq &&& (2147483647 : Int32))).toInt < 0 → (((iq &&& (2147483647 : Int32)) % (1000 : Int32))).toInt = -((-((iq &&& (2147483647 : Int32))).toInt) % 1000)) := c_irem (iq &&& (2147483647 : Int32)) (1000 : Int32) 1000 rfl; have e5 : (1 : Int32).toInt = 1 := rfl; have e1 := c_iadd ((iq &&& (2147483647 : Int32)) % (1000 : Int32)) (1 : Int32); have r1 := rng32 (((iq &&& (2147483647 : Int32)) % (1000 : Int32)) + (1 : Int32)); have e6 : (1001 : Int32).toInt = 1001 := rfl; omega) mm b11 _ _ _ _ _ _ HH_b11 OL hmm)) rfl (lenOf pd_11 rfl) (by decide) (W := 2) (Nat.le_of_eq rfl) (by decide) (k' := 10) (n' := 510) rfl rfl (by decide) (by decide) (argsL := [(.int (((iq &&& (2147483647 : Int32)) % (1000 : Int32)) + (1 : Int32)))]) (rest := [(.long (own_pc (own_min (own_min (own_min (9223372036854775807 : Int64) (jc &&& (9223372036854775807 : Int64))) (jd &&& (9223372036854775807 : Int64))) (je &&& (9223372036854775807 : Int64))) (own_max (own_max (own_max (0 : Int64) (jc &&& (9223372036854775807 : Int64))) (jd &&& (9223372036854775807 : Int64))) (je &&& (9223372036854775807 : Int64))) mm (((iq &&& (2147483647 : Int32)) % (1000 : Int32)) + (1 : Int32))))]) rfl (fun v92 h91 q93 => ?_)
    obtain ⟨rfl, rfl⟩ := q93
    refine G.cast (st' := [(.long (own_pc (own_min (own_min (own_min (9223372036854775807 : Int64) (jc &&& (9223372036854775807 : Int64))) (jd &&& (9223372036854775807 : Int64))) (je &&& (9223372036854775807 : Int64))) (own_max (own_max (own_max (0 : Int64) (jc &&& (9223372036854775807 : Int64))) (jd &&& (9223372036854775807 : Int64))) (je &&& (9223372036854775807 : Int64))) mm (((iq &&& (2147483647 : Int32)) % (1000 : Int32)) + (1 : Int32)))), (.long (own_pc (own_min (own_min (own_min (9223372036854775807 : Int64) (jc &&& (9223372036854775807 : Int64))) (jd &&& (9223372036854775807 : Int64))) (je &&& (9223372036854775807 : Int64))) (own_max (own_max (own_max (0 : Int64) (jc &&& (9223372036854775807 : Int64))) (jd &&& (9223372036854775807 : Int64))) (je &&& (9223372036854775807 : Int64))) mm (((iq &&& (2147483647 : Int32)) % (1000 : Int32)) + (1 : Int32))))]) ?_ rfl
    refine g_lif_ne cx d0_249 d0_250 (fun q => absurd q (fun q => q rfl)) (fun hc250 => ?_)
    refine g_iconst cx d0_253 (v := (1 : Int32)) rfl ?_
    refine g_goto cx d0_254 ?_
    refine g_istore cx d0_258 (Ls' := #[.val (.long ja), .second, .val (.long jc), .second, .val (.long jd), .second, .val (.long je), .second, .val (.int iq), .val (.int ig), .val (.long (ja &&& (9223372036854775807 : Int64))), .second, .val (.long (jc &&& (9223372036854775807 : Int64))), .second, .val (.long (jd &&& (9223372036854775807 : Int64))), .second, .val (.long (je &&& (9223372036854775807 : Int64))), .second, .val (.int (((iq &&& (2147483647 : Int32)) % (1000 : Int32)) + (1 : Int32))), .val (.ref b2), .val (.ref b11), .val (.int (1 : Int32)), .val (.long (own_min (jc &&& (9223372036854775807 : Int64)) (own_min (jd &&& (9223372036854775807 : Int64)) (je &&& (9223372036854775807 : Int64))))), .second, .val (.long (own_max (jc &&& (9223372036854775807 : Int64)) (own_max (jd &&& (9223372036854775807 : Int64)) (je &&& (9223372036854775807 : Int64))))), .second, .val (.int (1 : Int32)), .val (.int (1 : Int32))]) rfl ?_
    refine g_iload cx d0_260 rfl ?_
    refine g_if_eq cx d0_262 (fun q => absurd q (fun q => by revert q; decide)) (fun hc262 => ?_)
    refine g_iload cx d0_265 rfl ?_
    refine g_if_eq cx d0_267 (fun q => absurd q (fun q => by revert q; decide)) (fun hc267 => ?_)
    refine g_iload cx d0_270 rfl ?_
    refine g_if_eq cx d0_272 (fun q => absurd q (fun q => by revert q; decide)) (fun hc272 => ?_)
    refine g_iconst cx d0_275 (v := (1 : Int32)) rfl ?_
    refine g_goto cx d0_276 ?_
    refine g_retZ cx d0_280 rfl rfl (by decide) (by decide) ?_
    rfl
  · refine g_aload cx d0_68 rfl rfl ?_
    refine g_lload cx d0_70 rfl ?_
    refine g_virtual cx (y := (⟨"com/example/oswego/oswego/RunTimeHistogram", "record", "(J)V"⟩ : MethodName)) (z := (⟨"com/example/oswego/oswego/RunTimeHistogram", "record", "(J)V"⟩ : MethodName)) (a := b2) d0_72 (hw _ (List.mem_of_getElem? (i := 39) rfl)) (hw _ (List.mem_of_getElem? (i := 40) rfl)) (hw _ (List.mem_of_getElem? (i := 4) rfl)) (hw _ (List.mem_of_getElem? (i := 43) rfl)) (hw _ (List.mem_of_getElem? (i := 42) rfl)) (hw _ (List.mem_of_getElem? (i := 41) rfl)) rfl (by decide) O_b2.1 (bytes := prog_19_method_2_code) (maxL' := 4) (M := (rmrec l Z a0 hw (ja &&& (9223372036854775807 : Int64)) (fun q => by have i_q : ((ja &&& (9223372036854775807 : Int64))).toInt < ((0 : Int64)).toInt := Int64.lt_iff_toInt_lt.mp q; have r2 := rng64 ja; have e1 : ((ja &&& (9223372036854775807 : Int64))).toInt = (ja).toInt % 9223372036854775808 := c_maskL ja (9223372036854775807 : Int64) 63 (by decide) (by decide); have e3 : (0 : Int64).toInt = 0 := rfl; omega) b2 _ _ _ _ _ _ _ HH_b2 OL)) rfl (lenOf pd_10 rfl) (by decide) (W := 0) (Nat.le_of_eq rfl) (by decide) (k' := 5) (n' := 190) rfl rfl (by decide) (by decide) (argsL := [(.long (ja &&& (9223372036854775807 : Int64)))]) (rest := []) rfl (fun v98 h97 q99 => ?_)
    obtain ⟨wsn96, rfl, OL, KI, WI, HH_b2, bd94, bd95⟩ := q99
    have HH_b11 := HH_b11.keep KI DJ_b11_b2
    have DJ' : ∀ z ∈ ws_b11, z ∉ wsn96 := fun z hz q => (WI z q).elim (DJ_b11_b2 z hz) (fun r => absurd (LT_b11 z hz) (Nat.not_lt.mpr r.1))
    have LT' : ∀ z ∈ wsn96, z < _ := fun z hz => (WI z hz).elim (fun q => Nat.lt_of_lt_of_le (LT_b2 z q) KI.1) And.right
    have LT_b11 := fun z hz => Nat.lt_of_lt_of_le (LT_b11 z hz) KI.1
    clear DJ_b11_b2 DJ_b2_b11 LT_b2
    clear KI WI
    have DJ_b11_b2 := DJ'
    have DJ_b2_b11 := fun z hz q => DJ' z q hz
    have LT_b2 := LT'
    have O_b2 := own_Hx HH_b2
    have O_b11 := own_Hx HH_b11
    have HH_b2 : own_H Z _ b2 _ _ _ (1 : Int64) _ _ := HH_b2
    refine G.cast (st' := []) ?_ rfl
    refine g_aload cx d0_75 rfl rfl ?_
    refine g_virtual cx (y := (⟨"com/example/oswego/oswego/RunTimeHistogram", "clear", "()V"⟩ : MethodName)) (z := (⟨"com/example/oswego/oswego/RunTimeHistogram", "clear", "()V"⟩ : MethodName)) (a := b2) d0_77 (hw _ (List.mem_of_getElem? (i := 18) rfl)) (hw _ (List.mem_of_getElem? (i := 19) rfl)) (hw _ (List.mem_of_getElem? (i := 4) rfl)) (hw _ (List.mem_of_getElem? (i := 22) rfl)) (hw _ (List.mem_of_getElem? (i := 21) rfl)) (hw _ (List.mem_of_getElem? (i := 20) rfl)) rfl (by decide) O_b2.1 (bytes := prog_19_method_4_code) (maxL' := 5) (M := (rmclr l Z a0 hw b2 _ _ _ _ _ _ _ HH_b2 OL)) rfl (lenOf pd_8 rfl) (by decide) (W := 0) (Nat.le_of_eq rfl) (by decide) (k' := 5) (n' := 190) rfl rfl (by decide) (by decide) (argsL := []) (rest := []) rfl (fun v101 h100 q102 => ?_)
    obtain ⟨rfl, OL, KI, HH_b2⟩ := q102
    have HH_b11 := HH_b11.keep KI DJ_b11_b2
    have LT_b2 := fun z hz => Nat.lt_of_lt_of_le (LT_b2 z hz) KI.1
    have LT_b11 := fun z hz => Nat.lt_of_lt_of_le (LT_b11 z hz) KI.1
    have O_b2 := own_Hx HH_b2
    have O_b11 := own_Hx HH_b11
    refine G.cast (st' := []) ?_ rfl
    refine g_aload cx d0_80 rfl rfl ?_
    refine g_virtual cx (y := (⟨"com/example/oswego/oswego/RunTimeHistogram", "count", "()J"⟩ : MethodName)) (z := (⟨"com/example/oswego/oswego/RunTimeHistogram", "count", "()J"⟩ : MethodName)) (a := b2) d0_82 (hw _ (List.mem_of_getElem? (i := 29) rfl)) (hw _ (List.mem_of_getElem? (i := 30) rfl)) (hw _ (List.mem_of_getElem? (i := 4) rfl)) (hw _ (List.mem_of_getElem? (i := 33) rfl)) (hw _ (List.mem_of_getElem? (i := 32) rfl)) (hw _ (List.mem_of_getElem? (i := 31) rfl)) rfl (by decide) O_b2.1 (bytes := prog_19_method_5_code) (maxL' := 1) (M := (rmgcount l Z a0 hw b2 _ _ _ _ _ _ _ HH_b2 OL)) rfl (lenOf pd_9 rfl) (by decide) (W := 0) (Nat.le_of_eq rfl) (by decide) (k' := 5) (n' := 190) rfl rfl (by decide) (by decide) (argsL := []) (rest := []) rfl (fun v104 h103 q105 => ?_)
    obtain ⟨rfl, rfl⟩ := q105
    refine G.cast (st' := [(.long (0 : Int64))]) ?_ rfl
    refine g_lconst cx d0_85 (v := (0 : Int64)) rfl ?_
    refine g_lif_ne cx d0_86 d0_87 (fun q => absurd q (fun q => by revert q; decide)) (fun hc87 => ?_)
    refine g_aload cx d0_90 rfl rfl ?_
    refine g_virtual cx (y := (⟨"com/example/oswego/oswego/RunTimeHistogram", "max", "()J"⟩ : MethodName)) (z := (⟨"com/example/oswego/oswego/RunTimeHistogram", "max", "()J"⟩ : MethodName)) (a := b2) d0_92 (hw _ (List.mem_of_getElem? (i := 34) rfl)) (hw _ (List.mem_of_getElem? (i := 35) rfl)) (hw _ (List.mem_of_getElem? (i := 4) rfl)) (hw _ (List.mem_of_getElem? (i := 38) rfl)) (hw _ (List.mem_of_getElem? (i := 37) rfl)) (hw _ (List.mem_of_getElem? (i := 36) rfl)) rfl (by decide) O_b2.1 (bytes := prog_19_method_8_code) (maxL' := 1) (M := (rmgmax l Z a0 hw b2 _ _ _ _ _ _ _ HH_b2 OL)) rfl (lenOf pd_9 rfl) (by decide) (W := 0) (Nat.le_of_eq rfl) (by decide) (k' := 5) (n' := 190) rfl rfl (by decide) (by decide) (argsL := []) (rest := []) rfl (fun v107 h106 q108 => ?_)
    obtain ⟨rfl, rfl⟩ := q108
    refine G.cast (st' := [(.long (0 : Int64))]) ?_ rfl
    refine g_lconst cx d0_95 (v := (0 : Int64)) rfl ?_
    refine g_lif_ne cx d0_96 d0_97 (fun q => absurd q (fun q => by revert q; decide)) (fun hc97 => ?_)
    refine g_iconst cx d0_100 (v := (1 : Int32)) rfl ?_
    refine g_goto cx d0_101 ?_
    refine g_istore cx d0_105 (Ls' := #[.val (.long ja), .second, .val (.long jc), .second, .val (.long jd), .second, .val (.long je), .second, .val (.int iq), .val (.int ig), .val (.long (ja &&& (9223372036854775807 : Int64))), .second, .val (.long (jc &&& (9223372036854775807 : Int64))), .second, .val (.long (jd &&& (9223372036854775807 : Int64))), .second, .val (.long (je &&& (9223372036854775807 : Int64))), .second, .val (.int (((iq &&& (2147483647 : Int32)) % (1000 : Int32)) + (1 : Int32))), .val (.ref b2), .val (.ref b11), .val (.int (1 : Int32)), .unset, .unset, .unset, .unset, .unset, .unset]) rfl ?_
    refine g_aload cx d0_107 rfl rfl ?_
    refine g_lload cx d0_109 rfl ?_
    refine g_virtual cx (y := (⟨"com/example/oswego/oswego/RunTimeHistogram", "record", "(J)V"⟩ : MethodName)) (z := (⟨"com/example/oswego/oswego/RunTimeHistogram", "record", "(J)V"⟩ : MethodName)) (a := b2) d0_111 (hw _ (List.mem_of_getElem? (i := 39) rfl)) (hw _ (List.mem_of_getElem? (i := 40) rfl)) (hw _ (List.mem_of_getElem? (i := 4) rfl)) (hw _ (List.mem_of_getElem? (i := 43) rfl)) (hw _ (List.mem_of_getElem? (i := 42) rfl)) (hw _ (List.mem_of_getElem? (i := 41) rfl)) rfl (by decide) O_b2.1 (bytes := prog_19_method_2_code) (maxL' := 4) (M := (rmrec l Z a0 hw (jc &&& (9223372036854775807 : Int64)) (fun q => by have i_q : ((jc &&& (9223372036854775807 : Int64))).toInt < ((0 : Int64)).toInt := Int64.lt_iff_toInt_lt.mp q; have r2 := rng64 jc; have e1 : ((jc &&& (9223372036854775807 : Int64))).toInt = (jc).toInt % 9223372036854775808 := c_maskL jc (9223372036854775807 : Int64) 63 (by decide) (by decide); have e3 : (0 : Int64).toInt = 0 := rfl; omega) b2 _ _ _ _ _ _ _ HH_b2 OL)) rfl (lenOf pd_10 rfl) (by decide) (W := 0) (Nat.le_of_eq rfl) (by decide) (k' := 6) (n' := 254) rfl rfl (by decide) (by decide) (argsL := [(.long (jc &&& (9223372036854775807 : Int64)))]) (rest := []) rfl (fun v113 h112 q114 => ?_)
    obtain ⟨wsn111, rfl, OL, KI, WI, HH_b2, bd109, bd110⟩ := q114
    have HH_b11 := HH_b11.keep KI DJ_b11_b2
    have DJ' : ∀ z ∈ ws_b11, z ∉ wsn111 := fun z hz q => (WI z q).elim (DJ_b11_b2 z hz) (fun r => absurd (LT_b11 z hz) (Nat.not_lt.mpr r.1))
    have LT' : ∀ z ∈ wsn111, z < _ := fun z hz => (WI z hz).elim (fun q => Nat.lt_of_lt_of_le (LT_b2 z q) KI.1) And.right
    have LT_b11 := fun z hz => Nat.lt_of_lt_of_le (LT_b11 z hz) KI.1
    clear DJ_b11_b2 DJ_b2_b11 LT_b2
    clear KI WI
    have DJ_b11_b2 := DJ'
    have DJ_b2_b11 := fun z hz q => DJ' z q hz
    have LT_b2 := LT'
    have O_b2 := own_Hx HH_b2
    have O_b11 := own_Hx HH_b11
    have HH_b2 : own_H Z _ b2 _ _ _ (1 : Int64) _ _ := HH_b2
    refine G.cast (st' := []) ?_ rfl
    refine g_aload cx d0_114 rfl rfl ?_
    refine g_lload cx d0_116 rfl ?_
    refine g_virtual cx (y := (⟨"com/example/oswego/oswego/RunTimeHistogram", "record", "(J)V"⟩ : MethodName)) (z := (⟨"com/example/oswego/oswego/RunTimeHistogram", "record", "(J)V"⟩ : MethodName)) (a := b2) d0_118 (hw _ (List.mem_of_getElem? (i := 39) rfl)) (hw _ (List.mem_of_getElem? (i := 40) rfl)) (hw _ (List.mem_of_getElem? (i := 4) rfl)) (hw _ (List.mem_of_getElem? (i := 43) rfl)) (hw _ (List.mem_of_getElem? (i := 42) rfl)) (hw _ (List.mem_of_getElem? (i := 41) rfl)) rfl (by decide) O_b2.1 (bytes := prog_19_method_2_code) (maxL' := 4) (M := (rmrec l Z a0 hw (jd &&& (9223372036854775807 : Int64)) (fun q => by have i_q : ((jd &&& (9223372036854775807 : Int64))).toInt < ((0 : Int64)).toInt := Int64.lt_iff_toInt_lt.mp q; have r2 := rng64 jd; have e1 : ((jd &&& (9223372036854775807 : Int64))).toInt = (jd).toInt % 9223372036854775808 := c_maskL jd (9223372036854775807 : Int64) 63 (by decide) (by decide); have e3 : (0 : Int64).toInt = 0 := rfl; omega) b2 _ _ _ _ _ _ _ HH_b2 OL)) rfl (lenOf pd_10 rfl) (by decide) (W := 0) (Nat.le_of_eq rfl) (by decide) (k' := 7) (n' := 318) rfl rfl (by decide) (by decide) (argsL := [(.long (jd &&& (9223372036854775807 : Int64)))]) (rest := []) rfl (fun v119 h118 q120 => ?_)
    obtain ⟨wsn117, rfl, OL, KI, WI, HH_b2, bd115, bd116⟩ := q120
    have HH_b11 := HH_b11.keep KI DJ_b11_b2
    have DJ' : ∀ z ∈ ws_b11, z ∉ wsn117 := fun z hz q => (WI z q).elim (DJ_b11_b2 z hz) (fun r => absurd (LT_b11 z hz) (Nat.not_lt.mpr r.1))
    have LT' : ∀ z ∈ wsn117, z < _ := fun z hz => (WI z hz).elim (fun q => Nat.lt_of_lt_of_le (LT_b2 z q) KI.1) And.right
    have LT_b11 := fun z hz => Nat.lt_of_lt_of_le (LT_b11 z hz) KI.1
    clear DJ_b11_b2 DJ_b2_b11 LT_b2
    clear KI WI
    have DJ_b11_b2 := DJ'
    have DJ_b2_b11 := fun z hz q => DJ' z q hz
    have LT_b2 := LT'
    have O_b2 := own_Hx HH_b2
    have O_b11 := own_Hx HH_b11
    have HH_b2 : own_H Z _ b2 _ _ _ (2 : Int64) _ _ := HH_b2
    refine G.cast (st' := []) ?_ rfl
    refine g_aload cx d0_121 rfl rfl ?_
    refine g_lload cx d0_123 rfl ?_
    refine g_virtual cx (y := (⟨"com/example/oswego/oswego/RunTimeHistogram", "record", "(J)V"⟩ : MethodName)) (z := (⟨"com/example/oswego/oswego/RunTimeHistogram", "record", "(J)V"⟩ : MethodName)) (a := b2) d0_125 (hw _ (List.mem_of_getElem? (i := 39) rfl)) (hw _ (List.mem_of_getElem? (i := 40) rfl)) (hw _ (List.mem_of_getElem? (i := 4) rfl)) (hw _ (List.mem_of_getElem? (i := 43) rfl)) (hw _ (List.mem_of_getElem? (i := 42) rfl)) (hw _ (List.mem_of_getElem? (i := 41) rfl)) rfl (by decide) O_b2.1 (bytes := prog_19_method_2_code) (maxL' := 4) (M := (rmrec l Z a0 hw (je &&& (9223372036854775807 : Int64)) (fun q => by have i_q : ((je &&& (9223372036854775807 : Int64))).toInt < ((0 : Int64)).toInt := Int64.lt_iff_toInt_lt.mp q; have r2 := rng64 je; have e1 : ((je &&& (9223372036854775807 : Int64))).toInt = (je).toInt % 9223372036854775808 := c_maskL je (9223372036854775807 : Int64) 63 (by decide) (by decide); have e3 : (0 : Int64).toInt = 0 := rfl; omega) b2 _ _ _ _ _ _ _ HH_b2 OL)) rfl (lenOf pd_10 rfl) (by decide) (W := 0) (Nat.le_of_eq rfl) (by decide) (k' := 8) (n' := 382) rfl rfl (by decide) (by decide) (argsL := [(.long (je &&& (9223372036854775807 : Int64)))]) (rest := []) rfl (fun v125 h124 q126 => ?_)
    obtain ⟨wsn123, rfl, OL, KI, WI, HH_b2, bd121, bd122⟩ := q126
    have HH_b11 := HH_b11.keep KI DJ_b11_b2
    have DJ' : ∀ z ∈ ws_b11, z ∉ wsn123 := fun z hz q => (WI z q).elim (DJ_b11_b2 z hz) (fun r => absurd (LT_b11 z hz) (Nat.not_lt.mpr r.1))
    have LT' : ∀ z ∈ wsn123, z < _ := fun z hz => (WI z hz).elim (fun q => Nat.lt_of_lt_of_le (LT_b2 z q) KI.1) And.right
    have LT_b11 := fun z hz => Nat.lt_of_lt_of_le (LT_b11 z hz) KI.1
    clear DJ_b11_b2 DJ_b2_b11 LT_b2
    clear KI WI
    have DJ_b11_b2 := DJ'
    have DJ_b2_b11 := fun z hz q => DJ' z q hz
    have LT_b2 := LT'
    have O_b2 := own_Hx HH_b2
    have O_b11 := own_Hx HH_b11
    have HH_b2 : own_H Z _ b2 _ _ _ (3 : Int64) _ _ := HH_b2
    refine G.cast (st' := []) ?_ rfl
    refine g_aload cx d0_128 rfl rfl ?_
    refine g_lload cx d0_130 rfl ?_
    refine g_virtual cx (y := (⟨"com/example/oswego/oswego/RunTimeHistogram", "record", "(J)V"⟩ : MethodName)) (z := (⟨"com/example/oswego/oswego/RunTimeHistogram", "record", "(J)V"⟩ : MethodName)) (a := b11) d0_132 (hw _ (List.mem_of_getElem? (i := 39) rfl)) (hw _ (List.mem_of_getElem? (i := 40) rfl)) (hw _ (List.mem_of_getElem? (i := 4) rfl)) (hw _ (List.mem_of_getElem? (i := 43) rfl)) (hw _ (List.mem_of_getElem? (i := 42) rfl)) (hw _ (List.mem_of_getElem? (i := 41) rfl)) rfl (by decide) O_b11.1 (bytes := prog_19_method_2_code) (maxL' := 4) (M := (rmrec l Z a0 hw (jc &&& (9223372036854775807 : Int64)) (fun q => by have i_q : ((jc &&& (9223372036854775807 : Int64))).toInt < ((0 : Int64)).toInt := Int64.lt_iff_toInt_lt.mp q; have r2 := rng64 jc; have e1 : ((jc &&& (9223372036854775807 : Int64))).toInt = (jc).toInt % 9223372036854775808 := c_maskL jc (9223372036854775807 : Int64) 63 (by decide) (by decide); have e3 : (0 : Int64).toInt = 0 := rfl; omega) b11 _ _ _ _ _ _ _ HH_b11 OL)) rfl (lenOf pd_10 rfl) (by decide) (W := 0) (Nat.le_of_eq rfl) (by decide) (k' := 9) (n' := 446) rfl rfl (by decide) (by decide) (argsL := [(.long (jc &&& (9223372036854775807 : Int64)))]) (rest := []) rfl (fun v131 h130 q132 => ?_)
    obtain ⟨wsn129, rfl, OL, KI, WI, HH_b11, bd127, bd128⟩ := q132
    have HH_b2 := HH_b2.keep KI DJ_b2_b11
    have DJ' : ∀ z ∈ wsn123, z ∉ wsn129 := fun z hz q => (WI z q).elim (DJ_b2_b11 z hz) (fun r => absurd (LT_b2 z hz) (Nat.not_lt.mpr r.1))
    have LT' : ∀ z ∈ wsn129, z < _ := fun z hz => (WI z hz).elim (fun q => Nat.lt_of_lt_of_le (LT_b11 z q) KI.1) And.right
    have LT_b2 := fun z hz => Nat.lt_of_lt_of_le (LT_b2 z hz) KI.1
    clear DJ_b2_b11 DJ_b11_b2 LT_b11
    clear KI WI
    have DJ_b2_b11 := DJ'
    have DJ_b11_b2 := fun z hz q => DJ' z q hz
    have LT_b11 := LT'
    have O_b11 := own_Hx HH_b11
    have O_b2 := own_Hx HH_b2
    have HH_b11 : own_H Z _ b11 _ _ _ (1 : Int64) _ _ := HH_b11
    refine G.cast (st' := []) ?_ rfl
    refine g_aload cx d0_135 rfl rfl ?_
    refine g_lload cx d0_137 rfl ?_
    refine g_virtual cx (y := (⟨"com/example/oswego/oswego/RunTimeHistogram", "record", "(J)V"⟩ : MethodName)) (z := (⟨"com/example/oswego/oswego/RunTimeHistogram", "record", "(J)V"⟩ : MethodName)) (a := b11) d0_139 (hw _ (List.mem_of_getElem? (i := 39) rfl)) (hw _ (List.mem_of_getElem? (i := 40) rfl)) (hw _ (List.mem_of_getElem? (i := 4) rfl)) (hw _ (List.mem_of_getElem? (i := 43) rfl)) (hw _ (List.mem_of_getElem? (i := 42) rfl)) (hw _ (List.mem_of_getElem? (i := 41) rfl)) rfl (by decide) O_b11.1 (bytes := prog_19_method_2_code) (maxL' := 4) (M := (rmrec l Z a0 hw (jd &&& (9223372036854775807 : Int64)) (fun q => by have i_q : ((jd &&& (9223372036854775807 : Int64))).toInt < ((0 : Int64)).toInt := Int64.lt_iff_toInt_lt.mp q; have r2 := rng64 jd; have e1 : ((jd &&& (9223372036854775807 : Int64))).toInt = (jd).toInt % 9223372036854775808 := c_maskL jd (9223372036854775807 : Int64) 63 (by decide) (by decide); have e3 : (0 : Int64).toInt = 0 := rfl; omega) b11 _ _ _ _ _ _ _ HH_b11 OL)) rfl (lenOf pd_10 rfl) (by decide) (W := 0) (Nat.le_of_eq rfl) (by decide) (k' := 10) (n' := 510) rfl rfl (by decide) (by decide) (argsL := [(.long (jd &&& (9223372036854775807 : Int64)))]) (rest := []) rfl (fun v137 h136 q138 => ?_)
    obtain ⟨wsn135, rfl, OL, KI, WI, HH_b11, bd133, bd134⟩ := q138
    have HH_b2 := HH_b2.keep KI DJ_b2_b11
    have DJ' : ∀ z ∈ wsn123, z ∉ wsn135 := fun z hz q => (WI z q).elim (DJ_b2_b11 z hz) (fun r => absurd (LT_b2 z hz) (Nat.not_lt.mpr r.1))
    have LT' : ∀ z ∈ wsn135, z < _ := fun z hz => (WI z hz).elim (fun q => Nat.lt_of_lt_of_le (LT_b11 z q) KI.1) And.right
    have LT_b2 := fun z hz => Nat.lt_of_lt_of_le (LT_b2 z hz) KI.1
    clear DJ_b2_b11 DJ_b11_b2 LT_b11
    clear KI WI
    have DJ_b2_b11 := DJ'
    have DJ_b11_b2 := fun z hz q => DJ' z q hz
    have LT_b11 := LT'
    have O_b11 := own_Hx HH_b11
    have O_b2 := own_Hx HH_b2
    have HH_b11 : own_H Z _ b11 _ _ _ (2 : Int64) _ _ := HH_b11
    refine G.cast (st' := []) ?_ rfl
    refine g_aload cx d0_142 rfl rfl ?_
    refine g_lload cx d0_144 rfl ?_
    refine g_virtual cx (y := (⟨"com/example/oswego/oswego/RunTimeHistogram", "record", "(J)V"⟩ : MethodName)) (z := (⟨"com/example/oswego/oswego/RunTimeHistogram", "record", "(J)V"⟩ : MethodName)) (a := b11) d0_146 (hw _ (List.mem_of_getElem? (i := 39) rfl)) (hw _ (List.mem_of_getElem? (i := 40) rfl)) (hw _ (List.mem_of_getElem? (i := 4) rfl)) (hw _ (List.mem_of_getElem? (i := 43) rfl)) (hw _ (List.mem_of_getElem? (i := 42) rfl)) (hw _ (List.mem_of_getElem? (i := 41) rfl)) rfl (by decide) O_b11.1 (bytes := prog_19_method_2_code) (maxL' := 4) (M := (rmrec l Z a0 hw (je &&& (9223372036854775807 : Int64)) (fun q => by have i_q : ((je &&& (9223372036854775807 : Int64))).toInt < ((0 : Int64)).toInt := Int64.lt_iff_toInt_lt.mp q; have r2 := rng64 je; have e1 : ((je &&& (9223372036854775807 : Int64))).toInt = (je).toInt % 9223372036854775808 := c_maskL je (9223372036854775807 : Int64) 63 (by decide) (by decide); have e3 : (0 : Int64).toInt = 0 := rfl; omega) b11 _ _ _ _ _ _ _ HH_b11 OL)) rfl (lenOf pd_10 rfl) (by decide) (W := 0) (Nat.le_of_eq rfl) (by decide) (k' := 11) (n' := 574) rfl rfl (by decide) (by decide) (argsL := [(.long (je &&& (9223372036854775807 : Int64)))]) (rest := []) rfl (fun v143 h142 q144 => ?_)
    obtain ⟨wsn141, rfl, OL, KI, WI, HH_b11, bd139, bd140⟩ := q144
    have HH_b2 := HH_b2.keep KI DJ_b2_b11
    have DJ' : ∀ z ∈ wsn123, z ∉ wsn141 := fun z hz q => (WI z q).elim (DJ_b2_b11 z hz) (fun r => absurd (LT_b2 z hz) (Nat.not_lt.mpr r.1))
    have LT' : ∀ z ∈ wsn141, z < _ := fun z hz => (WI z hz).elim (fun q => Nat.lt_of_lt_of_le (LT_b11 z q) KI.1) And.right
    have LT_b2 := fun z hz => Nat.lt_of_lt_of_le (LT_b2 z hz) KI.1
    clear DJ_b2_b11 DJ_b11_b2 LT_b11
    clear KI WI
    have DJ_b2_b11 := DJ'
    have DJ_b11_b2 := fun z hz q => DJ' z q hz
    have LT_b11 := LT'
    have O_b11 := own_Hx HH_b11
    have O_b2 := own_Hx HH_b2
    have HH_b11 : own_H Z _ b11 _ _ _ (3 : Int64) _ _ := HH_b11
    obtain ⟨mm, hmm⟩ := own_ex bd127 bd128 bd133 bd134 bd139 bd140
    refine G.cast (st' := []) ?_ rfl
    refine g_lload cx d0_149 rfl ?_
    refine g_lload cx d0_151 rfl ?_
    refine g_lload cx d0_153 rfl ?_
    refine g_static cx (y := (⟨"java/lang/Math", "min", "(JJ)J"⟩ : MethodName)) d0_155 (hw _ (List.mem_of_getElem? (i := 74) rfl)) (hw _ (List.mem_of_getElem? (i := 69) rfl)) (hw _ (List.mem_of_getElem? (i := 58) rfl)) (hw _ (List.mem_of_getElem? (i := 70) rfl)) (by decide) (bytes := jdk_29_method_70_code) (maxL' := 4) (M := (rmnl l Z a0 hw _ _ _)) rfl (lenOf pd_4 rfl) (by decide) (W := 2) (Nat.le_of_eq rfl) (by decide) (k' := 11) (n' := 574) rfl rfl (by decide) (by decide) (argsL := [(.long (jd &&& (9223372036854775807 : Int64))), (.long (je &&& (9223372036854775807 : Int64)))]) (rest := [(.long (jc &&& (9223372036854775807 : Int64)))]) rfl (fun v146 h145 q147 => ?_)
    obtain ⟨rfl, rfl⟩ := q147
    refine G.cast (st' := [(.long (own_min (jd &&& (9223372036854775807 : Int64)) (je &&& (9223372036854775807 : Int64)))), (.long (jc &&& (9223372036854775807 : Int64)))]) ?_ rfl
    refine g_static cx (y := (⟨"java/lang/Math", "min", "(JJ)J"⟩ : MethodName)) d0_158 (hw _ (List.mem_of_getElem? (i := 74) rfl)) (hw _ (List.mem_of_getElem? (i := 69) rfl)) (hw _ (List.mem_of_getElem? (i := 58) rfl)) (hw _ (List.mem_of_getElem? (i := 70) rfl)) (by decide) (bytes := jdk_29_method_70_code) (maxL' := 4) (M := (rmnl l Z a0 hw _ _ _)) rfl (lenOf pd_4 rfl) (by decide) (W := 0) (Nat.le_of_eq rfl) (by decide) (k' := 11) (n' := 574) rfl rfl (by decide) (by decide) (argsL := [(.long (jc &&& (9223372036854775807 : Int64))), (.long (own_min (jd &&& (9223372036854775807 : Int64)) (je &&& (9223372036854775807 : Int64))))]) (rest := []) rfl (fun v149 h148 q150 => ?_)
    obtain ⟨rfl, rfl⟩ := q150
    refine G.cast (st' := [(.long (own_min (jc &&& (9223372036854775807 : Int64)) (own_min (jd &&& (9223372036854775807 : Int64)) (je &&& (9223372036854775807 : Int64)))))]) ?_ rfl
    refine g_lstore cx d0_161 (Ls' := #[.val (.long ja), .second, .val (.long jc), .second, .val (.long jd), .second, .val (.long je), .second, .val (.int iq), .val (.int ig), .val (.long (ja &&& (9223372036854775807 : Int64))), .second, .val (.long (jc &&& (9223372036854775807 : Int64))), .second, .val (.long (jd &&& (9223372036854775807 : Int64))), .second, .val (.long (je &&& (9223372036854775807 : Int64))), .second, .val (.int (((iq &&& (2147483647 : Int32)) % (1000 : Int32)) + (1 : Int32))), .val (.ref b2), .val (.ref b11), .val (.int (1 : Int32)), .val (.long (own_min (jc &&& (9223372036854775807 : Int64)) (own_min (jd &&& (9223372036854775807 : Int64)) (je &&& (9223372036854775807 : Int64))))), .second, .unset, .unset, .unset, .unset]) rfl ?_
    refine g_lload cx d0_163 rfl ?_
    refine g_lload cx d0_165 rfl ?_
    refine g_lload cx d0_167 rfl ?_
    refine g_static cx (y := (⟨"java/lang/Math", "max", "(JJ)J"⟩ : MethodName)) d0_169 (hw _ (List.mem_of_getElem? (i := 75) rfl)) (hw _ (List.mem_of_getElem? (i := 72) rfl)) (hw _ (List.mem_of_getElem? (i := 58) rfl)) (hw _ (List.mem_of_getElem? (i := 73) rfl)) (by decide) (bytes := jdk_29_method_66_code) (maxL' := 4) (M := (rmxl l Z a0 hw _ _ _)) rfl (lenOf pd_4 rfl) (by decide) (W := 2) (Nat.le_of_eq rfl) (by decide) (k' := 11) (n' := 574) rfl rfl (by decide) (by decide) (argsL := [(.long (jd &&& (9223372036854775807 : Int64))), (.long (je &&& (9223372036854775807 : Int64)))]) (rest := [(.long (jc &&& (9223372036854775807 : Int64)))]) rfl (fun v152 h151 q153 => ?_)
    obtain ⟨rfl, rfl⟩ := q153
    refine G.cast (st' := [(.long (own_max (jd &&& (9223372036854775807 : Int64)) (je &&& (9223372036854775807 : Int64)))), (.long (jc &&& (9223372036854775807 : Int64)))]) ?_ rfl
    refine g_static cx (y := (⟨"java/lang/Math", "max", "(JJ)J"⟩ : MethodName)) d0_172 (hw _ (List.mem_of_getElem? (i := 75) rfl)) (hw _ (List.mem_of_getElem? (i := 72) rfl)) (hw _ (List.mem_of_getElem? (i := 58) rfl)) (hw _ (List.mem_of_getElem? (i := 73) rfl)) (by decide) (bytes := jdk_29_method_66_code) (maxL' := 4) (M := (rmxl l Z a0 hw _ _ _)) rfl (lenOf pd_4 rfl) (by decide) (W := 0) (Nat.le_of_eq rfl) (by decide) (k' := 11) (n' := 574) rfl rfl (by decide) (by decide) (argsL := [(.long (jc &&& (9223372036854775807 : Int64))), (.long (own_max (jd &&& (9223372036854775807 : Int64)) (je &&& (9223372036854775807 : Int64))))]) (rest := []) rfl (fun v155 h154 q156 => ?_)
    obtain ⟨rfl, rfl⟩ := q156
    refine G.cast (st' := [(.long (own_max (jc &&& (9223372036854775807 : Int64)) (own_max (jd &&& (9223372036854775807 : Int64)) (je &&& (9223372036854775807 : Int64)))))]) ?_ rfl
    refine g_lstore cx d0_175 (Ls' := #[.val (.long ja), .second, .val (.long jc), .second, .val (.long jd), .second, .val (.long je), .second, .val (.int iq), .val (.int ig), .val (.long (ja &&& (9223372036854775807 : Int64))), .second, .val (.long (jc &&& (9223372036854775807 : Int64))), .second, .val (.long (jd &&& (9223372036854775807 : Int64))), .second, .val (.long (je &&& (9223372036854775807 : Int64))), .second, .val (.int (((iq &&& (2147483647 : Int32)) % (1000 : Int32)) + (1 : Int32))), .val (.ref b2), .val (.ref b11), .val (.int (1 : Int32)), .val (.long (own_min (jc &&& (9223372036854775807 : Int64)) (own_min (jd &&& (9223372036854775807 : Int64)) (je &&& (9223372036854775807 : Int64))))), .second, .val (.long (own_max (jc &&& (9223372036854775807 : Int64)) (own_max (jd &&& (9223372036854775807 : Int64)) (je &&& (9223372036854775807 : Int64))))), .second, .unset, .unset]) rfl ?_
    refine g_aload cx d0_177 rfl rfl ?_
    refine g_virtual cx (y := (⟨"com/example/oswego/oswego/RunTimeHistogram", "count", "()J"⟩ : MethodName)) (z := (⟨"com/example/oswego/oswego/RunTimeHistogram", "count", "()J"⟩ : MethodName)) (a := b2) d0_179 (hw _ (List.mem_of_getElem? (i := 29) rfl)) (hw _ (List.mem_of_getElem? (i := 30) rfl)) (hw _ (List.mem_of_getElem? (i := 4) rfl)) (hw _ (List.mem_of_getElem? (i := 33) rfl)) (hw _ (List.mem_of_getElem? (i := 32) rfl)) (hw _ (List.mem_of_getElem? (i := 31) rfl)) rfl (by decide) O_b2.1 (bytes := prog_19_method_5_code) (maxL' := 1) (M := (rmgcount l Z a0 hw b2 _ _ _ _ _ _ _ HH_b2 OL)) rfl (lenOf pd_9 rfl) (by decide) (W := 0) (Nat.le_of_eq rfl) (by decide) (k' := 11) (n' := 574) rfl rfl (by decide) (by decide) (argsL := []) (rest := []) rfl (fun v158 h157 q159 => ?_)
    obtain ⟨rfl, rfl⟩ := q159
    refine G.cast (st' := [(.long (3 : Int64))]) ?_ rfl
    refine g_ldcJ cx d0_182 (hw _ (List.mem_of_getElem? (i := 76) rfl)) ?_
    refine g_lif_ne cx d0_185 d0_186 (fun q => absurd q (fun q => by revert q; decide)) (fun hc186 => ?_)
    refine g_aload cx d0_189 rfl rfl ?_
    refine g_virtual cx (y := (⟨"com/example/oswego/oswego/RunTimeHistogram", "sum", "()J"⟩ : MethodName)) (z := (⟨"com/example/oswego/oswego/RunTimeHistogram", "sum", "()J"⟩ : MethodName)) (a := b2) d0_191 (hw _ (List.mem_of_getElem? (i := 77) rfl)) (hw _ (List.mem_of_getElem? (i := 78) rfl)) (hw _ (List.mem_of_getElem? (i := 4) rfl)) (hw _ (List.mem_of_getElem? (i := 81) rfl)) (hw _ (List.mem_of_getElem? (i := 80) rfl)) (hw _ (List.mem_of_getElem? (i := 79) rfl)) rfl (by decide) O_b2.1 (bytes := prog_19_method_6_code) (maxL' := 1) (M := (rmgsum l Z a0 hw b2 _ _ _ _ _ _ _ HH_b2 OL)) rfl (lenOf pd_9 rfl) (by decide) (W := 0) (Nat.le_of_eq rfl) (by decide) (k' := 11) (n' := 574) rfl rfl (by decide) (by decide) (argsL := []) (rest := []) rfl (fun v161 h160 q162 => ?_)
    obtain ⟨rfl, rfl⟩ := q162
    refine G.cast (st' := [(.long ((((0 : Int64) + (jc &&& (9223372036854775807 : Int64))) + (jd &&& (9223372036854775807 : Int64))) + (je &&& (9223372036854775807 : Int64))))]) ?_ rfl
    refine g_lload cx d0_194 rfl ?_
    refine g_lload cx d0_196 rfl ?_
    refine g_ladd cx d0_198 ?_
    refine g_lload cx d0_199 rfl ?_
    refine g_ladd cx d0_201 ?_
    refine g_lif_ne cx d0_202 d0_203 (fun q => absurd q (fun q => by have i_q : ¬ (((((0 : Int64) + (jc &&& (9223372036854775807 : Int64))) + (jd &&& (9223372036854775807 : Int64))) + (je &&& (9223372036854775807 : Int64)))).toInt = ((((jc &&& (9223372036854775807 : Int64)) + (jd &&& (9223372036854775807 : Int64))) + (je &&& (9223372036854775807 : Int64)))).toInt := fun z => q (Int64.toInt_inj.mp z); have e4 : (0 : Int64).toInt = 0 := rfl; have r6 := rng64 jc; have e5 : ((jc &&& (9223372036854775807 : Int64))).toInt = (jc).toInt % 9223372036854775808 := c_maskL jc (9223372036854775807 : Int64) 63 (by decide) (by decide); have e3 := c_ladd (0 : Int64) (jc &&& (9223372036854775807 : Int64)); have r3 := rng64 ((0 : Int64) + (jc &&& (9223372036854775807 : Int64))); have r8 := rng64 jd; have e7 : ((jd &&& (9223372036854775807 : Int64))).toInt = (jd).toInt % 9223372036854775808 := c_maskL jd (9223372036854775807 : Int64) 63 (by decide) (by decide); have e2 := c_ladd ((0 : Int64) + (jc &&& (9223372036854775807 : Int64))) (jd &&& (9223372036854775807 : Int64)); have r2 := rng64 (((0 : Int64) + (jc &&& (9223372036854775807 : Int64))) + (jd &&& (9223372036854775807 : Int64))); have r10 := rng64 je; have e9 : ((je &&& (9223372036854775807 : Int64))).toInt = (je).toInt % 9223372036854775808 := c_maskL je (9223372036854775807 : Int64) 63 (by decide) (by decide); have e1 := c_ladd (((0 : Int64) + (jc &&& (9223372036854775807 : Int64))) + (jd &&& (9223372036854775807 : Int64))) (je &&& (9223372036854775807 : Int64)); have r1 := rng64 ((((0 : Int64) + (jc &&& (9223372036854775807 : Int64))) + (jd &&& (9223372036854775807 : Int64))) + (je &&& (9223372036854775807 : Int64))); have e12 := c_ladd (jc &&& (9223372036854775807 : Int64)) (jd &&& (9223372036854775807 : Int64)); have r12 := rng64 ((jc &&& (9223372036854775807 : Int64)) + (jd &&& (9223372036854775807 : Int64))); have e11 := c_ladd ((jc &&& (9223372036854775807 : Int64)) + (jd &&& (9223372036854775807 : Int64))) (je &&& (9223372036854775807 : Int64)); have r11 := rng64 (((jc &&& (9223372036854775807 : Int64)) + (jd &&& (9223372036854775807 : Int64))) + (je &&& (9223372036854775807 : Int64))); omega)) (fun hc203 => ?_)
    refine g_aload cx d0_206 rfl rfl ?_
    refine g_virtual cx (y := (⟨"com/example/oswego/oswego/RunTimeHistogram", "min", "()J"⟩ : MethodName)) (z := (⟨"com/example/oswego/oswego/RunTimeHistogram", "min", "()J"⟩ : MethodName)) (a := b2) d0_208 (hw _ (List.mem_of_getElem? (i := 82) rfl)) (hw _ (List.mem_of_getElem? (i := 83) rfl)) (hw _ (List.mem_of_getElem? (i := 4) rfl)) (hw _ (List.mem_of_getElem? (i := 86) rfl)) (hw _ (List.mem_of_getElem? (i := 85) rfl)) (hw _ (List.mem_of_getElem? (i := 84) rfl)) rfl (by decide) O_b2.1 (bytes := prog_19_method_7_code) (maxL' := 1) (M := (rmgmin l Z a0 hw b2 _ _ _ _ _ _ _ HH_b2 OL)) rfl (lenOf pd_9 rfl) (by decide) (W := 0) (Nat.le_of_eq rfl) (by decide) (k' := 11) (n' := 574) rfl rfl (by decide) (by decide) (argsL := []) (rest := []) rfl (fun v164 h163 q165 => ?_)
    obtain ⟨rfl, rfl⟩ := q165
    refine G.cast (st' := [(.long (own_mv (3 : Int64) (own_min (own_min (own_min (9223372036854775807 : Int64) (jc &&& (9223372036854775807 : Int64))) (jd &&& (9223372036854775807 : Int64))) (je &&& (9223372036854775807 : Int64)))))]) ?_ rfl
    refine g_lload cx d0_211 rfl ?_
    refine g_lif_ne cx d0_213 d0_214 (fun q => absurd q (fun q => by have i_q : ¬ ((own_mv (3 : Int64) (own_min (own_min (own_min (9223372036854775807 : Int64) (jc &&& (9223372036854775807 : Int64))) (jd &&& (9223372036854775807 : Int64))) (je &&& (9223372036854775807 : Int64))))).toInt = ((own_min (jc &&& (9223372036854775807 : Int64)) (own_min (jd &&& (9223372036854775807 : Int64)) (je &&& (9223372036854775807 : Int64))))).toInt := fun z => q (Int64.toInt_inj.mp z); have r1 := rng64 (own_mv (3 : Int64) (own_min (own_min (own_min (9223372036854775807 : Int64) (jc &&& (9223372036854775807 : Int64))) (jd &&& (9223372036854775807 : Int64))) (je &&& (9223372036854775807 : Int64)))); have r2 := rng64 (own_min (jc &&& (9223372036854775807 : Int64)) (own_min (jd &&& (9223372036854775807 : Int64)) (je &&& (9223372036854775807 : Int64)))); have e3 : (9223372036854775807 : Int64).toInt = 9223372036854775807 := rfl; have r5 := rng64 jc; have e4 : ((jc &&& (9223372036854775807 : Int64))).toInt = (jc).toInt % 9223372036854775808 := c_maskL jc (9223372036854775807 : Int64) 63 (by decide) (by decide); have r6 := rng64 (own_min (9223372036854775807 : Int64) (jc &&& (9223372036854775807 : Int64))); have r8 := rng64 jd; have e7 : ((jd &&& (9223372036854775807 : Int64))).toInt = (jd).toInt % 9223372036854775808 := c_maskL jd (9223372036854775807 : Int64) 63 (by decide) (by decide); have r9 := rng64 (own_min (own_min (9223372036854775807 : Int64) (jc &&& (9223372036854775807 : Int64))) (jd &&& (9223372036854775807 : Int64))); have r11 := rng64 je; have e10 : ((je &&& (9223372036854775807 : Int64))).toInt = (je).toInt % 9223372036854775808 := c_maskL je (9223372036854775807 : Int64) 63 (by decide) (by decide); have r12 := rng64 (own_min (own_min (own_min (9223372036854775807 : Int64) (jc &&& (9223372036854775807 : Int64))) (jd &&& (9223372036854775807 : Int64))) (je &&& (9223372036854775807 : Int64))); have r13 := rng64 (own_min (jd &&& (9223372036854775807 : Int64)) (je &&& (9223372036854775807 : Int64))); have := own_min_t (9223372036854775807 : Int64) (jc &&& (9223372036854775807 : Int64)); have := own_min_t (own_min (9223372036854775807 : Int64) (jc &&& (9223372036854775807 : Int64))) (jd &&& (9223372036854775807 : Int64)); have := own_min_t (own_min (own_min (9223372036854775807 : Int64) (jc &&& (9223372036854775807 : Int64))) (jd &&& (9223372036854775807 : Int64))) (je &&& (9223372036854775807 : Int64)); have mv : ((own_mv (3 : Int64) (own_min (own_min (own_min (9223372036854775807 : Int64) (jc &&& (9223372036854775807 : Int64))) (jd &&& (9223372036854775807 : Int64))) (je &&& (9223372036854775807 : Int64))))).toInt = ((own_min (own_min (own_min (9223372036854775807 : Int64) (jc &&& (9223372036854775807 : Int64))) (jd &&& (9223372036854775807 : Int64))) (je &&& (9223372036854775807 : Int64)))).toInt := (by rw [own_mv, if_neg (by decide)]); have := own_min_t (jd &&& (9223372036854775807 : Int64)) (je &&& (9223372036854775807 : Int64)); have := own_min_t (jc &&& (9223372036854775807 : Int64)) (own_min (jd &&& (9223372036854775807 : Int64)) (je &&& (9223372036854775807 : Int64))); omega)) (fun hc214 => ?_)
    refine g_aload cx d0_217 rfl rfl ?_
    refine g_virtual cx (y := (⟨"com/example/oswego/oswego/RunTimeHistogram", "max", "()J"⟩ : MethodName)) (z := (⟨"com/example/oswego/oswego/RunTimeHistogram", "max", "()J"⟩ : MethodName)) (a := b2) d0_219 (hw _ (List.mem_of_getElem? (i := 34) rfl)) (hw _ (List.mem_of_getElem? (i := 35) rfl)) (hw _ (List.mem_of_getElem? (i := 4) rfl)) (hw _ (List.mem_of_getElem? (i := 38) rfl)) (hw _ (List.mem_of_getElem? (i := 37) rfl)) (hw _ (List.mem_of_getElem? (i := 36) rfl)) rfl (by decide) O_b2.1 (bytes := prog_19_method_8_code) (maxL' := 1) (M := (rmgmax l Z a0 hw b2 _ _ _ _ _ _ _ HH_b2 OL)) rfl (lenOf pd_9 rfl) (by decide) (W := 0) (Nat.le_of_eq rfl) (by decide) (k' := 11) (n' := 574) rfl rfl (by decide) (by decide) (argsL := []) (rest := []) rfl (fun v167 h166 q168 => ?_)
    obtain ⟨rfl, rfl⟩ := q168
    refine G.cast (st' := [(.long (own_max (own_max (own_max (0 : Int64) (jc &&& (9223372036854775807 : Int64))) (jd &&& (9223372036854775807 : Int64))) (je &&& (9223372036854775807 : Int64))))]) ?_ rfl
    refine g_lload cx d0_222 rfl ?_
    refine g_lif_ne cx d0_224 d0_225 (fun q => absurd q (fun q => by have i_q : ¬ ((own_max (own_max (own_max (0 : Int64) (jc &&& (9223372036854775807 : Int64))) (jd &&& (9223372036854775807 : Int64))) (je &&& (9223372036854775807 : Int64)))).toInt = ((own_max (jc &&& (9223372036854775807 : Int64)) (own_max (jd &&& (9223372036854775807 : Int64)) (je &&& (9223372036854775807 : Int64))))).toInt := fun z => q (Int64.toInt_inj.mp z); have r1 := rng64 (own_max (own_max (own_max (0 : Int64) (jc &&& (9223372036854775807 : Int64))) (jd &&& (9223372036854775807 : Int64))) (je &&& (9223372036854775807 : Int64))); have r2 := rng64 (own_max (jc &&& (9223372036854775807 : Int64)) (own_max (jd &&& (9223372036854775807 : Int64)) (je &&& (9223372036854775807 : Int64)))); have e3 : (0 : Int64).toInt = 0 := rfl; have r5 := rng64 jc; have e4 : ((jc &&& (9223372036854775807 : Int64))).toInt = (jc).toInt % 9223372036854775808 := c_maskL jc (9223372036854775807 : Int64) 63 (by decide) (by decide); have r6 := rng64 (own_max (0 : Int64) (jc &&& (9223372036854775807 : Int64))); have r8 := rng64 jd; have e7 : ((jd &&& (9223372036854775807 : Int64))).toInt = (jd).toInt % 9223372036854775808 := c_maskL jd (9223372036854775807 : Int64) 63 (by decide) (by decide); have r9 := rng64 (own_max (own_max (0 : Int64) (jc &&& (9223372036854775807 : Int64))) (jd &&& (9223372036854775807 : Int64))); have r11 := rng64 je; have e10 : ((je &&& (9223372036854775807 : Int64))).toInt = (je).toInt % 9223372036854775808 := c_maskL je (9223372036854775807 : Int64) 63 (by decide) (by decide); have r12 := rng64 (own_max (jd &&& (9223372036854775807 : Int64)) (je &&& (9223372036854775807 : Int64))); have := own_max_t (0 : Int64) (jc &&& (9223372036854775807 : Int64)); have := own_max_t (own_max (0 : Int64) (jc &&& (9223372036854775807 : Int64))) (jd &&& (9223372036854775807 : Int64)); have := own_max_t (own_max (own_max (0 : Int64) (jc &&& (9223372036854775807 : Int64))) (jd &&& (9223372036854775807 : Int64))) (je &&& (9223372036854775807 : Int64)); have := own_max_t (jd &&& (9223372036854775807 : Int64)) (je &&& (9223372036854775807 : Int64)); have := own_max_t (jc &&& (9223372036854775807 : Int64)) (own_max (jd &&& (9223372036854775807 : Int64)) (je &&& (9223372036854775807 : Int64))); omega)) (fun hc225 => ?_)
    refine g_iconst cx d0_228 (v := (1 : Int32)) rfl ?_
    refine g_goto cx d0_229 ?_
    refine g_istore cx d0_233 (Ls' := #[.val (.long ja), .second, .val (.long jc), .second, .val (.long jd), .second, .val (.long je), .second, .val (.int iq), .val (.int ig), .val (.long (ja &&& (9223372036854775807 : Int64))), .second, .val (.long (jc &&& (9223372036854775807 : Int64))), .second, .val (.long (jd &&& (9223372036854775807 : Int64))), .second, .val (.long (je &&& (9223372036854775807 : Int64))), .second, .val (.int (((iq &&& (2147483647 : Int32)) % (1000 : Int32)) + (1 : Int32))), .val (.ref b2), .val (.ref b11), .val (.int (1 : Int32)), .val (.long (own_min (jc &&& (9223372036854775807 : Int64)) (own_min (jd &&& (9223372036854775807 : Int64)) (je &&& (9223372036854775807 : Int64))))), .second, .val (.long (own_max (jc &&& (9223372036854775807 : Int64)) (own_max (jd &&& (9223372036854775807 : Int64)) (je &&& (9223372036854775807 : Int64))))), .second, .val (.int (1 : Int32)), .unset]) rfl ?_
    refine g_aload cx d0_235 rfl rfl ?_
    refine g_iload cx d0_237 rfl ?_
    refine g_virtual cx (y := (⟨"com/example/oswego/oswego/RunTimeHistogram", "percentile", "(I)J"⟩ : MethodName)) (z := (⟨"com/example/oswego/oswego/RunTimeHistogram", "percentile", "(I)J"⟩ : MethodName)) (a := b2) d0_239 (hw _ (List.mem_of_getElem? (i := 87) rfl)) (hw _ (List.mem_of_getElem? (i := 88) rfl)) (hw _ (List.mem_of_getElem? (i := 4) rfl)) (hw _ (List.mem_of_getElem? (i := 91) rfl)) (hw _ (List.mem_of_getElem? (i := 90) rfl)) (hw _ (List.mem_of_getElem? (i := 89) rfl)) rfl (by decide) O_b2.1 (bytes := prog_19_method_9_code) (maxL' := 6) (M := (rmpe l Z a0 hw (((iq &&& (2147483647 : Int32)) % (1000 : Int32)) + (1 : Int32)) (fun q => by have i_q : ((((iq &&& (2147483647 : Int32)) % (1000 : Int32)) + (1 : Int32))).toInt < ((1 : Int32)).toInt := Int32.lt_iff_toInt_lt.mp q; have r4 := rng32 iq; have e3 : ((iq &&& (2147483647 : Int32))).toInt = (iq).toInt % 2147483648 := c_mask iq (2147483647 : Int32) 31 (by decide) (by decide); have e2 : (0 ≤ ((iq &&& (2147483647 : Int32))).toInt → (((iq &&& (2147483647 : Int32)) % (1000 : Int32))).toInt = ((iq &&& (2147483647 : Int32))).toInt % 1000) ∧ (((iq &&& (2147483647 : Int32))).toInt < 0 → (((iq &&& (2147483647 : Int32)) % (1000 : Int32))).toInt = -((-((iq &&& (2147483647 : Int32))).toInt) % 1000)) := c_irem (iq &&& (2147483647 : Int32)) (1000 : Int32) 1000 rfl; have e5 : (1 : Int32).toInt = 1 := rfl; have e1 := c_iadd ((iq &&& (2147483647 : Int32)) % (1000 : Int32)) (1 : Int32); have r1 := rng32 (((iq &&& (2147483647 : Int32)) % (1000 : Int32)) + (1 : Int32)); omega) (Decidable.byContradiction fun q => by have i_q : ¬ ((((iq &&& (2147483647 : Int32)) % (1000 : Int32)) + (1 : Int32))).toInt < ((1001 : Int32)).toInt := fun z => q (Int32.lt_iff_toInt_lt.mpr z); have r4 := rng32 iq; have e3 : ((iq &&& (2147483647 : Int32))).toInt = (iq).toInt % 2147483648 := c_mask iq (2147483647 : Int32) 31 (by decide) (by decide); have e2 : (0 ≤ ((iq &&& (2147483647 : Int32))).toInt → (((iq &&& (2147483647 : Int32)) % (1000 : Int32))).toInt = ((iq &&& (2147483647 : Int32))).toInt % 1000) ∧ (((iq &&& (2147483647 : Int32))).toInt < 0 → (((iq &&& (2147483647 : Int32)) % (1000 : Int32))).toInt = -((-((iq &&& (2147483647 : Int32))).toInt) % 1000)) := c_irem (iq &&& (2147483647 : Int32)) (1000 : Int32) 1000 rfl; have e5 : (1 : Int32).toInt = 1 := rfl; have e1 := c_iadd ((iq &&& (2147483647 : Int32)) % (1000 : Int32)) (1 : Int32); have r1 := rng32 (((iq &&& (2147483647 : Int32)) % (1000 : Int32)) + (1 : Int32)); have e6 : (1001 : Int32).toInt = 1001 := rfl; omega) mm b2 _ _ _ _ _ _ HH_b2 OL hmm)) rfl (lenOf pd_11 rfl) (by decide) (W := 0) (Nat.le_of_eq rfl) (by decide) (k' := 11) (n' := 574) rfl rfl (by decide) (by decide) (argsL := [(.int (((iq &&& (2147483647 : Int32)) % (1000 : Int32)) + (1 : Int32)))]) (rest := []) rfl (fun v170 h169 q171 => ?_)
    obtain ⟨rfl, rfl⟩ := q171
    refine G.cast (st' := [(.long (own_pc (own_min (own_min (own_min (9223372036854775807 : Int64) (jc &&& (9223372036854775807 : Int64))) (jd &&& (9223372036854775807 : Int64))) (je &&& (9223372036854775807 : Int64))) (own_max (own_max (own_max (0 : Int64) (jc &&& (9223372036854775807 : Int64))) (jd &&& (9223372036854775807 : Int64))) (je &&& (9223372036854775807 : Int64))) mm (((iq &&& (2147483647 : Int32)) % (1000 : Int32)) + (1 : Int32))))]) ?_ rfl
    refine g_aload cx d0_242 rfl rfl ?_
    refine g_iload cx d0_244 rfl ?_
    refine g_virtual cx (y := (⟨"com/example/oswego/oswego/RunTimeHistogram", "percentile", "(I)J"⟩ : MethodName)) (z := (⟨"com/example/oswego/oswego/RunTimeHistogram", "percentile", "(I)J"⟩ : MethodName)) (a := b11) d0_246 (hw _ (List.mem_of_getElem? (i := 87) rfl)) (hw _ (List.mem_of_getElem? (i := 88) rfl)) (hw _ (List.mem_of_getElem? (i := 4) rfl)) (hw _ (List.mem_of_getElem? (i := 91) rfl)) (hw _ (List.mem_of_getElem? (i := 90) rfl)) (hw _ (List.mem_of_getElem? (i := 89) rfl)) rfl (by decide) O_b11.1 (bytes := prog_19_method_9_code) (maxL' := 6) (M := (rmpe l Z a0 hw (((iq &&& (2147483647 : Int32)) % (1000 : Int32)) + (1 : Int32)) (fun q => by have i_q : ((((iq &&& (2147483647 : Int32)) % (1000 : Int32)) + (1 : Int32))).toInt < ((1 : Int32)).toInt := Int32.lt_iff_toInt_lt.mp q; have r4 := rng32 iq; have e3 : ((iq &&& (2147483647 : Int32))).toInt = (iq).toInt % 2147483648 := c_mask iq (2147483647 : Int32) 31 (by decide) (by decide); have e2 : (0 ≤ ((iq &&& (2147483647 : Int32))).toInt → (((iq &&& (2147483647 : Int32)) % (1000 : Int32))).toInt = ((iq &&& (2147483647 : Int32))).toInt % 1000) ∧ (((iq &&& (2147483647 : Int32))).toInt < 0 → (((iq &&& (2147483647 : Int32)) % (1000 : Int32))).toInt = -((-((iq &&& (2147483647 : Int32))).toInt) % 1000)) := c_irem (iq &&& (2147483647 : Int32)) (1000 : Int32) 1000 rfl; have e5 : (1 : Int32).toInt = 1 := rfl; have e1 := c_iadd ((iq &&& (2147483647 : Int32)) % (1000 : Int32)) (1 : Int32); have r1 := rng32 (((iq &&& (2147483647 : Int32)) % (1000 : Int32)) + (1 : Int32)); omega) (Decidable.byContradiction fun q => by have i_q : ¬ ((((iq &&& (2147483647 : Int32)) % (1000 : Int32)) + (1 : Int32))).toInt < ((1001 : Int32)).toInt := fun z => q (Int32.lt_iff_toInt_lt.mpr z); have r4 := rng32 iq; have e3 : ((iq &&& (2147483647 : Int32))).toInt = (iq).toInt % 2147483648 := c_mask iq (2147483647 : Int32) 31 (by decide) (by decide); have e2 : (0 ≤ ((iq &&& (2147483647 : Int32))).toInt → (((iq &&& (2147483647 : Int32)) % (1000 : Int32))).toInt = ((iq &&& (2147483647 : Int32))).toInt % 1000) ∧ (((iq &&& (2147483647 : Int32))).toInt < 0 → (((iq &&& (2147483647 : Int32)) % (1000 : Int32))).toInt = -((-((iq &&& (2147483647 : Int32))).toInt) % 1000)) := c_irem (iq &&& (2147483647 : Int32)) (1000 : Int32) 1000 rfl; have e5 : (1 : Int32).toInt = 1 := rfl; have e1 := c_iadd ((iq &&& (2147483647 : Int32)) % (1000 : Int32)) (1 : Int32); have r1 := rng32 (((iq &&& (2147483647 : Int32)) % (1000 : Int32)) + (1 : Int32)); have e6 : (1001 : Int32).toInt = 1001 := rfl; omega) mm b11 _ _ _ _ _ _ HH_b11 OL hmm)) rfl (lenOf pd_11 rfl) (by decide) (W := 2) (Nat.le_of_eq rfl) (by decide) (k' := 11) (n' := 574) rfl rfl (by decide) (by decide) (argsL := [(.int (((iq &&& (2147483647 : Int32)) % (1000 : Int32)) + (1 : Int32)))]) (rest := [(.long (own_pc (own_min (own_min (own_min (9223372036854775807 : Int64) (jc &&& (9223372036854775807 : Int64))) (jd &&& (9223372036854775807 : Int64))) (je &&& (9223372036854775807 : Int64))) (own_max (own_max (own_max (0 : Int64) (jc &&& (9223372036854775807 : Int64))) (jd &&& (9223372036854775807 : Int64))) (je &&& (9223372036854775807 : Int64))) mm (((iq &&& (2147483647 : Int32)) % (1000 : Int32)) + (1 : Int32))))]) rfl (fun v173 h172 q174 => ?_)
    obtain ⟨rfl, rfl⟩ := q174
    refine G.cast (st' := [(.long (own_pc (own_min (own_min (own_min (9223372036854775807 : Int64) (jc &&& (9223372036854775807 : Int64))) (jd &&& (9223372036854775807 : Int64))) (je &&& (9223372036854775807 : Int64))) (own_max (own_max (own_max (0 : Int64) (jc &&& (9223372036854775807 : Int64))) (jd &&& (9223372036854775807 : Int64))) (je &&& (9223372036854775807 : Int64))) mm (((iq &&& (2147483647 : Int32)) % (1000 : Int32)) + (1 : Int32)))), (.long (own_pc (own_min (own_min (own_min (9223372036854775807 : Int64) (jc &&& (9223372036854775807 : Int64))) (jd &&& (9223372036854775807 : Int64))) (je &&& (9223372036854775807 : Int64))) (own_max (own_max (own_max (0 : Int64) (jc &&& (9223372036854775807 : Int64))) (jd &&& (9223372036854775807 : Int64))) (je &&& (9223372036854775807 : Int64))) mm (((iq &&& (2147483647 : Int32)) % (1000 : Int32)) + (1 : Int32))))]) ?_ rfl
    refine g_lif_ne cx d0_249 d0_250 (fun q => absurd q (fun q => q rfl)) (fun hc250 => ?_)
    refine g_iconst cx d0_253 (v := (1 : Int32)) rfl ?_
    refine g_goto cx d0_254 ?_
    refine g_istore cx d0_258 (Ls' := #[.val (.long ja), .second, .val (.long jc), .second, .val (.long jd), .second, .val (.long je), .second, .val (.int iq), .val (.int ig), .val (.long (ja &&& (9223372036854775807 : Int64))), .second, .val (.long (jc &&& (9223372036854775807 : Int64))), .second, .val (.long (jd &&& (9223372036854775807 : Int64))), .second, .val (.long (je &&& (9223372036854775807 : Int64))), .second, .val (.int (((iq &&& (2147483647 : Int32)) % (1000 : Int32)) + (1 : Int32))), .val (.ref b2), .val (.ref b11), .val (.int (1 : Int32)), .val (.long (own_min (jc &&& (9223372036854775807 : Int64)) (own_min (jd &&& (9223372036854775807 : Int64)) (je &&& (9223372036854775807 : Int64))))), .second, .val (.long (own_max (jc &&& (9223372036854775807 : Int64)) (own_max (jd &&& (9223372036854775807 : Int64)) (je &&& (9223372036854775807 : Int64))))), .second, .val (.int (1 : Int32)), .val (.int (1 : Int32))]) rfl ?_
    refine g_iload cx d0_260 rfl ?_
    refine g_if_eq cx d0_262 (fun q => absurd q (fun q => by revert q; decide)) (fun hc262 => ?_)
    refine g_iload cx d0_265 rfl ?_
    refine g_if_eq cx d0_267 (fun q => absurd q (fun q => by revert q; decide)) (fun hc267 => ?_)
    refine g_iload cx d0_270 rfl ?_
    refine g_if_eq cx d0_272 (fun q => absurd q (fun q => by revert q; decide)) (fun hc272 => ?_)
    refine g_iconst cx d0_275 (v := (1 : Int32)) rfl ?_
    refine g_goto cx d0_276 ?_
    refine g_retZ cx d0_280 rfl rfl (by decide) (by decide) ?_
    rfl
set_option maxRecDepth 65536 in
set_option maxHeartbeats 40000000 in
theorem comes_1 {Post : Tables → Env → Array Value → State → Outcome → State → Prop} (hpost : ∀ tb e args s v u, (limb_1_1.after args s (.returned v) u = true ∧ limb_1_2.after args s (.returned v) u = true ∧ True) → FrameEnd s (.returned v) u (Jvm.fieldLocs frame_1_writes args s ++ Jvm.arrayLocs frame_1_arrays args s ++ Jvm.staticLocs frame_1_statics s) 32 1216 → Post tb e args s (.returned v) u) :
    ArmFor flags0 classFile x code maxLocals ret World_1 tables_1 room_1 Calls_1 rest_1 Pre_1 Post := by
  intro l hfl _ _ p e ha hc hk s m args below hf hA hF happ hP
  obtain ⟨hcalls, hrest, hpre⟩ := hP
  obtain ⟨-, -, -, hnamed, -, -, -, hat⟩ := (Spec.applies_iff hf).mp happ
  obtain ⟨hg, hn⟩ := and_e (Cond.before_iff.mp (show (Jvm.Cond.and given_1 narrow_1).before args s = true from hpre))
  obtain ⟨g1, g2⟩ := and_e hg
  obtain ⟨g3, g4⟩ := and_e g2
  obtain ⟨g5, g6⟩ := and_e g4
  obtain ⟨g7, g8⟩ := and_e g6
  obtain ⟨g9, g10⟩ := and_e g8
  obtain ⟨g11, g12⟩ := and_e g10
  obtain ⟨w0, w1, w2, w3, w4, w5, rfl⟩ : ∃ w0 w1 w2 w3 w4 w5 : Value, args = #[w0, w1, w2, w3, w4, w5] := by
    have hs : args.size = 6 := by simpa [Cond.value, given_1] using g1
    obtain ⟨L⟩ := args
    match L, hs with
    | [w0, w1, w2, w3, w4, w5], _ => exact ⟨w0, w1, w2, w3, w4, w5, rfl⟩
  have hw := fun d (hd : d ∈ tables_1) => atoms_spec (ws := Jvm.Cond.code x code maxLocals ret :: tables_1) hat d (List.mem_cons_of_mem _ hd)
  have hfit : Fit s := fun {y c} hc i hi => by
    obtain ⟨ha, rfl⟩ := Array.getElem?_eq_some_iff.mp hc
    have q := List.all_eq_true.mp ((Array.all_eq_true_iff_forall_mem.mp hF) _ (Array.getElem_mem ha)) i (List.mem_range.mpr hi)
    simpa [Array.getElem?_eq_getElem hi] using q
  obtain ⟨i0, ei0⟩ := isL_v g3
  obtain rfl : w0 = (.long i0) := Option.some.inj ei0
  obtain ⟨i1, ei1⟩ := isL_v g5
  obtain rfl : w1 = (.long i1) := Option.some.inj ei1
  obtain ⟨i2, ei2⟩ := isL_v g7
  obtain rfl : w2 = (.long i2) := Option.some.inj ei2
  obtain ⟨i3, ei3⟩ := isL_v g9
  obtain rfl : w3 = (.long i3) := Option.some.inj ei3
  obtain ⟨i4, ei4⟩ := is_v g11
  obtain rfl : w4 = (.int i4) := Option.some.inj ei4
  obtain ⟨i5, ei5⟩ := is_v g12
  obtain rfl : w5 = (.int i5) := Option.some.inj ei5
  obtain ⟨n, o, h1, h2, h3, _, L, rfl, ⟨rfl, N⟩, hq⟩ := rm0 l s _ hw i0 i1 i2 i3 i4 i5 s.heap (Old.start s) tables_1 p e ha hc hk s m _ below hf ((Spec.applies_iff_loose hf).mp happ).1 ⟨rfl, State.Warmed39.refl s, rfl⟩ trivial
  refine ⟨n, _, h1, h2, h3, hpost _ _ _ _ _ _ ⟨Cond.after_iff.mpr rfl, Cond.after_iff.mpr (eq_i res_at (Term.int_eval (1)) rfl), trivial⟩ ⟨hq.1, hq.2.1, (hq.2.2.sift fun y hy => Or.inr (N y hy)).mono (by decide) (by decide)⟩⟩
theorem main_1_1 : Claimed_1_1 := comes_1 fun _ _ _ _ _ _ h hF => ⟨h.1, hF⟩
theorem main_1_2 : Claimed_1_2 := comes_1 fun _ _ _ _ _ _ h hF => ⟨h.2.1, hF⟩
end Jvm.Pilot.@@N@@
namespace Jvm.Pilot.@@N@@
open Jvm Jvm.ClassFile Sem Op Lib Jvm.Free Jvm.Stand Jvm.Pilot.@@N@@.Jvm.D
/-! MADE BY PROGRAM (witnessworld.py) out of the Statement's table words and the real class files: 19 classes; the members and pool entries that the words name. The judged class is class 1, her method 1. -/
namespace start1
open Jvm.ClassFile
def u (s : String) : CpInfo := .utf8 (stringToUtf16 s)
/-- a pool by its gaps: so many unusable entries, then the entry; so many at the end -/
def gap : Nat → List CpInfo → List CpInfo
  | 0, r => r
  | n + 1, r => .unusable :: gap n r
def poolList (es : List (Nat × CpInfo)) (last : Nat) : List CpInfo := es.foldr (fun e r => gap e.1 (e.2 :: r)) (gap last [])
def pool (es : List (Nat × CpInfo)) (last : Nat) : Array CpInfo := ⟨poolList es last⟩
def fileOf (pool : Array CpInfo) (this : Nat) (attrs : Array Attribute := #[]) (ms : Array MethodInfo := #[]) (fl : Nat := 33) (sup : Nat := 0) (ifs : Array Nat := #[]) (fds : Array FieldInfo := #[]) : ClassFile where
  minorVersion := 0
  majorVersion := 65
  constantPool := pool
  accessFlags := fl
  thisClass := this
  superClass := sup
  interfaces := ifs
  fields := fds
  methods := ms
  attributes := attrs
def plain (name : String) (sup : Option ClassId) : Class where
  name := name
  kind := .ordinary
  loader := none
  accessFlags := 33
  super := sup
  interfaces := #[]
  cf := none
  fields := #[]
  methods := #[]
  instanceTypes := #[]
  staticTypes := #[]
  resolved := #[]
  callSites := []
  init := .initialized
  statics := none
  mirror := none

def pool0 : Array CpInfo := pool [(5, u "<init>"), (0, u "()V"), (1, .class_ 10), (1, u "java/lang/Object")] 113

def k0c0 : Code := { maxStack := 0, maxLocals := 1, code := object_method_1_code, exceptionTable := #[], attributes := #[] }
def k0m0 : Method := { name := "<init>", desc := "()V", sig := { parameters := [], returnType := none }, accessFlags := 1, code := some k0c0 }
/-- java/lang/Object -/
def k0 : Class := { plain "java/lang/Object" none with
  accessFlags := 33
  interfaces := #[]
  cf := some (fileOf pool0 8 #[] #[{ accessFlags := 1, nameIndex := 5, descriptorIndex := 6, attributes := #[] }] 33 0 #[] #[])
  fields := #[]
  methods := #[k0m0]
  instanceTypes := #[]
  staticTypes := #[]
  resolved := Array.replicate 124 none
  statics := none }

def pool1 : Array CpInfo := pool [(2, .class_ 4), (0, .nameAndType 5 6), (0, u "java/lang/Object"), (0, u "<init>"), (0, u "()V"), (2, .long 9223372036854775807), (1, .integer 2147483647), (0, .class_ 13), (0, u "com/example/oswego/oswego/RunTimeHistogram"), (0, .methodref 12 3), (0, .methodref 12 16), (0, .nameAndType 17 18), (0, u "record"), (0, u "(J)V"), (0, .methodref 12 20), (0, .nameAndType 21 6), (0, u "clear"), (0, .methodref 12 23), (0, .nameAndType 24 25), (0, u "count"), (0, u "()J"), (0, .methodref 12 27), (0, .nameAndType 28 25), (0, u "max"), (0, .methodref 30 31), (0, .class_ 32), (0, .nameAndType 33 34), (0, u "java/lang/Math"), (0, u "min"), (0, u "(JJ)J"), (0, .methodref 30 36), (0, .nameAndType 28 34), (0, .long 3), (1, .methodref 12 40), (0, .nameAndType 41 25), (0, u "sum"), (0, .methodref 12 43), (0, .nameAndType 33 25), (0, .methodref 12 45), (0, .nameAndType 46 47), (0, u "percentile"), (0, u "(I)J"), (0, .class_ 49), (0, u "com/example/oswego/oswego/RunTimeHistogramClearPinLaw"), (2, u "law"), (0, u "(JJJJII)Z")] 3

def k1m0 : Method := { name := "<init>", desc := "()V", sig := { parameters := [], returnType := none }, accessFlags := 1, code := none }
def k1c1 : Code := { maxStack := 6, maxLocals := 28, code := code, exceptionTable := #[], attributes := #[] }
def k1m1 : Method := { name := "law", desc := "(JJJJII)Z", sig := { parameters := [.long, .long, .long, .long, .int, .int], returnType := some .boolean }, accessFlags := 9, code := some k1c1 }
/-- com/example/oswego/oswego/RunTimeHistogramClearPinLaw -/
def k1 : Class := { plain "com/example/oswego/oswego/RunTimeHistogramClearPinLaw" (some 0) with
  accessFlags := 49
  interfaces := #[]
  cf := some (fileOf pool1 48 #[] #[{ accessFlags := 1, nameIndex := 5, descriptorIndex := 6, attributes := #[] }, { accessFlags := 9, nameIndex := 52, descriptorIndex := 53, attributes := #[] }] 49 2 #[] #[])
  fields := #[]
  methods := #[k1m0, k1m1]
  instanceTypes := #[]
  staticTypes := #[]
  resolved := Array.replicate 57 none
  statics := none }

def pool2 : Array CpInfo := pool [(1, .class_ 2), (0, u "com/example/oswego/oswego/RunTimeHistogram"), (0, .class_ 4), (0, u "java/lang/Long"), (0, .methodref 6 7), (0, .class_ 8), (0, .nameAndType 9 10), (0, u "java/lang/Object"), (0, u "<init>"), (0, u "()V"), (0, .class_ 12), (0, u "[J"), (0, .fieldref 1 14), (0, .nameAndType 15 16), (0, u "buckets"), (0, u "[[J"), (0, .long 9223372036854775807), (1, .fieldref 1 20), (0, .nameAndType 21 22), (0, u "min"), (0, u "J"), (0, .methodref 1 24), (0, .nameAndType 25 26), (0, u "rangeOf"), (0, u "(J)I"), (0, .methodref 1 28), (0, .nameAndType 29 30), (0, u "subBucketOf"), (0, u "(JI)I"), (0, .fieldref 1 32), (0, .nameAndType 33 22), (0, u "count"), (0, .fieldref 1 35), (0, .nameAndType 36 22), (0, u "sum"), (0, .methodref 38 39), (0, .class_ 40), (0, .nameAndType 21 41), (0, u "java/lang/Math"), (0, u "(JJ)J"), (0, .fieldref 1 43), (0, .nameAndType 44 22), (0, u "max"), (0, .methodref 38 46), (0, .nameAndType 44 41), (2, u "clear"), (0, .methodref 51 52), (0, .class_ 53), (0, .nameAndType 54 55), (0, u "java/util/Arrays"), (0, u "fill"), (0, u "([JJ)V"), (0, .long 1000), (1, .long 999), (1, .methodref 1 61), (0, .nameAndType 62 63), (0, u "bucketMiddleAt"), (0, u "(J)J"), (0, .methodref 1 65), (0, .nameAndType 66 67), (0, u "middleOf"), (0, u "(II)J"), (9, .methodref 3 78), (0, .nameAndType 79 26), (0, u "numberOfLeadingZeros"), (0, .methodref 38 81), (0, .nameAndType 44 82), (0, u "(II)I"), (0, .methodref 1 84), (0, .nameAndType 85 86), (0, u "widthBits"), (0, u "(I)I"), (0, .long 2), (1, u "SUB_BITS"), (0, u "I"), (2, u "SUB_BUCKETS"), (1, u "RANGES"), (3, u "record"), (0, u "(J)V"), (4, u "()J"), (0, u "percentile"), (0, u "(I)J")] 17

def k2c0 : Code := { maxStack := 3, maxLocals := 1, code := prog_19_method_1_code, exceptionTable := #[], attributes := #[] }
def k2m0 : Method := { name := "<init>", desc := "()V", sig := { parameters := [], returnType := none }, accessFlags := 0, code := some k2c0 }
def k2c1 : Code := { maxStack := 6, maxLocals := 4, code := prog_19_method_2_code, exceptionTable := #[], attributes := #[] }
def k2m1 : Method := { name := "record", desc := "(J)V", sig := { parameters := [.long], returnType := none }, accessFlags := 0, code := some k2c1 }
def k2c2 : Code := { maxStack := 3, maxLocals := 5, code := prog_19_method_4_code, exceptionTable := #[], attributes := #[] }
def k2m2 : Method := { name := "clear", desc := "()V", sig := { parameters := [], returnType := none }, accessFlags := 0, code := some k2c2 }
def k2c3 : Code := { maxStack := 2, maxLocals := 1, code := prog_19_method_5_code, exceptionTable := #[], attributes := #[] }
def k2m3 : Method := { name := "count", desc := "()J", sig := { parameters := [], returnType := some .long }, accessFlags := 0, code := some k2c3 }
def k2c4 : Code := { maxStack := 2, maxLocals := 1, code := prog_19_method_6_code, exceptionTable := #[], attributes := #[] }
def k2m4 : Method := { name := "sum", desc := "()J", sig := { parameters := [], returnType := some .long }, accessFlags := 0, code := some k2c4 }
def k2c5 : Code := { maxStack := 4, maxLocals := 1, code := prog_19_method_7_code, exceptionTable := #[], attributes := #[] }
def k2m5 : Method := { name := "min", desc := "()J", sig := { parameters := [], returnType := some .long }, accessFlags := 0, code := some k2c5 }
def k2c6 : Code := { maxStack := 2, maxLocals := 1, code := prog_19_method_8_code, exceptionTable := #[], attributes := #[] }
def k2m6 : Method := { name := "max", desc := "()J", sig := { parameters := [], returnType := some .long }, accessFlags := 0, code := some k2c6 }
def k2c7 : Code := { maxStack := 7, maxLocals := 6, code := prog_19_method_9_code, exceptionTable := #[], attributes := #[] }
def k2m7 : Method := { name := "percentile", desc := "(I)J", sig := { parameters := [.int], returnType := some .long }, accessFlags := 0, code := some k2c7 }
def k2c8 : Code := { maxStack := 6, maxLocals := 8, code := prog_19_method_10_code, exceptionTable := #[], attributes := #[] }
def k2m8 : Method := { name := "bucketMiddleAt", desc := "(J)J", sig := { parameters := [.long], returnType := some .long }, accessFlags := 2, code := some k2c8 }
def k2c9 : Code := { maxStack := 4, maxLocals := 2, code := prog_19_method_11_code, exceptionTable := #[], attributes := #[] }
def k2m9 : Method := { name := "rangeOf", desc := "(J)I", sig := { parameters := [.long], returnType := some .int }, accessFlags := 10, code := some k2c9 }
def k2c10 : Code := { maxStack := 3, maxLocals := 3, code := prog_19_method_12_code, exceptionTable := #[], attributes := #[] }
def k2m10 : Method := { name := "subBucketOf", desc := "(JI)I", sig := { parameters := [.long, .int], returnType := some .int }, accessFlags := 10, code := some k2c10 }
def k2c11 : Code := { maxStack := 6, maxLocals := 4, code := prog_19_method_13_code, exceptionTable := #[], attributes := #[] }
def k2m11 : Method := { name := "middleOf", desc := "(II)J", sig := { parameters := [.int, .int], returnType := some .long }, accessFlags := 10, code := some k2c11 }
def k2c12 : Code := { maxStack := 3, maxLocals := 1, code := prog_19_method_14_code, exceptionTable := #[], attributes := #[] }
def k2m12 : Method := { name := "widthBits", desc := "(I)I", sig := { parameters := [.int], returnType := some .int }, accessFlags := 10, code := some k2c12 }
/-- com/example/oswego/oswego/RunTimeHistogram -/
def k2 : Class := { plain "com/example/oswego/oswego/RunTimeHistogram" (some 0) with
  accessFlags := 48
  interfaces := #[]
  cf := some (fileOf pool2 1 #[] #[{ accessFlags := 0, nameIndex := 9, descriptorIndex := 10, attributes := #[] }, { accessFlags := 0, nameIndex := 99, descriptorIndex := 100, attributes := #[] }, { accessFlags := 0, nameIndex := 49, descriptorIndex := 10, attributes := #[] }, { accessFlags := 0, nameIndex := 33, descriptorIndex := 105, attributes := #[] }, { accessFlags := 0, nameIndex := 36, descriptorIndex := 105, attributes := #[] }, { accessFlags := 0, nameIndex := 21, descriptorIndex := 105, attributes := #[] }, { accessFlags := 0, nameIndex := 44, descriptorIndex := 105, attributes := #[] }, { accessFlags := 0, nameIndex := 106, descriptorIndex := 107, attributes := #[] }, { accessFlags := 2, nameIndex := 62, descriptorIndex := 63, attributes := #[] }, { accessFlags := 10, nameIndex := 25, descriptorIndex := 26, attributes := #[] }, { accessFlags := 10, nameIndex := 29, descriptorIndex := 30, attributes := #[] }, { accessFlags := 10, nameIndex := 66, descriptorIndex := 67, attributes := #[] }, { accessFlags := 10, nameIndex := 85, descriptorIndex := 86, attributes := #[] }] 48 6 #[] #[{ accessFlags := 26, nameIndex := 89, descriptorIndex := 90, attributes := #[] }, { accessFlags := 26, nameIndex := 93, descriptorIndex := 90, attributes := #[] }, { accessFlags := 26, nameIndex := 95, descriptorIndex := 90, attributes := #[] }, { accessFlags := 18, nameIndex := 15, descriptorIndex := 16, attributes := #[] }, { accessFlags := 2, nameIndex := 33, descriptorIndex := 22, attributes := #[] }, { accessFlags := 2, nameIndex := 36, descriptorIndex := 22, attributes := #[] }, { accessFlags := 2, nameIndex := 21, descriptorIndex := 22, attributes := #[] }, { accessFlags := 2, nameIndex := 44, descriptorIndex := 22, attributes := #[] }])
  fields := #[{ name := "SUB_BITS", type := .int, accessFlags := 26, slot := 0, constantValue := 0 }, { name := "SUB_BUCKETS", type := .int, accessFlags := 26, slot := 1, constantValue := 0 }, { name := "RANGES", type := .int, accessFlags := 26, slot := 2, constantValue := 0 }, { name := "buckets", type := (.array (.array .long)), accessFlags := 18, slot := 0, constantValue := 0 }, { name := "count", type := .long, accessFlags := 2, slot := 1, constantValue := 0 }, { name := "sum", type := .long, accessFlags := 2, slot := 2, constantValue := 0 }, { name := "min", type := .long, accessFlags := 2, slot := 3, constantValue := 0 }, { name := "max", type := .long, accessFlags := 2, slot := 4, constantValue := 0 }]
  methods := #[k2m0, k2m1, k2m2, k2m3, k2m4, k2m5, k2m6, k2m7, k2m8, k2m9, k2m10, k2m11, k2m12]
  instanceTypes := #[(.array (.array .long)), .long, .long, .long, .long]
  staticTypes := #[.int, .int, .int]
  resolved := Array.replicate 125 none
  statics := none }

def pool3 : Array CpInfo := pool [(1, .class_ 2), (0, u "java/io/Serializable"), (0, .class_ 4), (0, u "java/lang/Object")] 2

/-- java/io/Serializable -/
def k3 : Class := { plain "java/io/Serializable" (some 0) with
  accessFlags := 1537
  interfaces := #[]
  cf := some (fileOf pool3 1 #[] #[] 1537 3 #[] #[])
  fields := #[]
  methods := #[]
  instanceTypes := #[]
  staticTypes := #[]
  resolved := Array.replicate 7 none
  statics := none }

def pool4 : Array CpInfo := pool [(2, .class_ 4), (1, u "java/lang/Object"), (0, u "<init>"), (0, u "()V"), (1, .class_ 10), (1, u "java/lang/Number"), (2, .class_ 14), (0, u "java/io/Serializable"), (0, u "serialVersionUID"), (0, u "J")] 20

def k4m0 : Method := { name := "<init>", desc := "()V", sig := { parameters := [], returnType := none }, accessFlags := 1, code := none }
/-- java/lang/Number -/
def k4 : Class := { plain "java/lang/Number" (some 0) with
  accessFlags := 1057
  interfaces := #[3]
  cf := some (fileOf pool4 8 #[] #[{ accessFlags := 1, nameIndex := 5, descriptorIndex := 6, attributes := #[] }] 1057 2 #[13] #[{ accessFlags := 26, nameIndex := 15, descriptorIndex := 16, attributes := #[] }])
  fields := #[{ name := "serialVersionUID", type := .long, accessFlags := 26, slot := 0, constantValue := 0 }]
  methods := #[k4m0]
  instanceTypes := #[]
  staticTypes := #[.long]
  resolved := Array.replicate 37 none
  statics := none }

def pool5 : Array CpInfo := pool [(1, .class_ 2), (0, u "java/lang/Comparable"), (0, .class_ 4), (0, u "java/lang/Object")] 7

/-- java/lang/Comparable -/
def k5 : Class := { plain "java/lang/Comparable" (some 0) with
  accessFlags := 1537
  interfaces := #[]
  cf := some (fileOf pool5 1 #[] #[] 1537 3 #[] #[])
  fields := #[]
  methods := #[]
  instanceTypes := #[]
  staticTypes := #[]
  resolved := Array.replicate 12 none
  statics := none }

def pool6 : Array CpInfo := pool [(1, .class_ 2), (0, u "java/lang/constant/Constable"), (0, .class_ 4), (0, u "java/lang/Object")] 6

/-- java/lang/constant/Constable -/
def k6 : Class := { plain "java/lang/constant/Constable" (some 0) with
  accessFlags := 1537
  interfaces := #[]
  cf := some (fileOf pool6 1 #[] #[] 1537 3 #[] #[])
  fields := #[]
  methods := #[]
  instanceTypes := #[]
  staticTypes := #[]
  resolved := Array.replicate 11 none
  statics := none }

def pool7 : Array CpInfo := pool [(1, .class_ 2), (0, u "java/lang/constant/ConstantDesc"), (0, .class_ 4), (0, u "java/lang/Object")] 32

/-- java/lang/constant/ConstantDesc -/
def k7 : Class := { plain "java/lang/constant/ConstantDesc" (some 0) with
  accessFlags := 1537
  interfaces := #[]
  cf := some (fileOf pool7 1 #[] #[] 1537 3 #[] #[])
  fields := #[]
  methods := #[]
  instanceTypes := #[]
  staticTypes := #[]
  resolved := Array.replicate 37 none
  statics := none }

def pool8 : Array CpInfo := pool [(1, .class_ 2), (0, u "java/lang/Long"), (15, .class_ 20), (1, u "java/lang/Integer"), (79, u "numberOfLeadingZeros"), (0, u "(J)I"), (133, .class_ 237), (1, u "java/lang/Long$LongCache"), (33, .class_ 272), (0, u "java/lang/Number"), (2, u "value"), (0, u "J"), (31, .methodref 18 309), (0, .nameAndType 100 310), (0, u "(I)I"), (50, u "TYPE"), (0, u "Ljava/lang/Class;"), (0, .class_ 364), (0, u "java/lang/Comparable"), (0, .class_ 366), (0, u "java/lang/constant/Constable"), (0, .class_ 368), (0, u "java/lang/constant/ConstantDesc"), (0, u "MIN_VALUE"), (1, u "MAX_VALUE"), (4, u "SIZE"), (0, u "I"), (1, u "BYTES"), (1, u "serialVersionUID")] 142

def k8c0 : Code := { maxStack := 3, maxLocals := 3, code := jdk_35_method_48_code, exceptionTable := #[], attributes := #[] }
def k8m0 : Method := { name := "numberOfLeadingZeros", desc := "(J)I", sig := { parameters := [.long], returnType := some .int }, accessFlags := 9, code := some k8c0 }
/-- java/lang/Long -/
def k8 : Class := { plain "java/lang/Long" (some 4) with
  accessFlags := 49
  interfaces := #[5, 6, 7]
  cf := some (fileOf pool8 1 #[.nestMembers #[235]] #[{ accessFlags := 9, nameIndex := 100, descriptorIndex := 101, attributes := #[] }] 49 271 #[363, 365, 367] #[{ accessFlags := 25, nameIndex := 369, descriptorIndex := 276, attributes := #[] }, { accessFlags := 25, nameIndex := 371, descriptorIndex := 276, attributes := #[] }, { accessFlags := 25, nameIndex := 361, descriptorIndex := 362, attributes := #[] }, { accessFlags := 18, nameIndex := 275, descriptorIndex := 276, attributes := #[] }, { accessFlags := 25, nameIndex := 376, descriptorIndex := 377, attributes := #[] }, { accessFlags := 25, nameIndex := 379, descriptorIndex := 377, attributes := #[] }, { accessFlags := 26, nameIndex := 381, descriptorIndex := 276, attributes := #[] }])
  fields := #[{ name := "MIN_VALUE", type := .long, accessFlags := 25, slot := 0, constantValue := 0 }, { name := "MAX_VALUE", type := .long, accessFlags := 25, slot := 1, constantValue := 0 }, { name := "TYPE", type := (.object "java/lang/Class"), accessFlags := 25, slot := 2, constantValue := 0 }, { name := "value", type := .long, accessFlags := 18, slot := 0, constantValue := 0 }, { name := "SIZE", type := .int, accessFlags := 25, slot := 3, constantValue := 0 }, { name := "BYTES", type := .int, accessFlags := 25, slot := 4, constantValue := 0 }, { name := "serialVersionUID", type := .long, accessFlags := 26, slot := 5, constantValue := 0 }]
  methods := #[k8m0]
  instanceTypes := #[.long]
  staticTypes := #[.long, .long, (.object "java/lang/Class"), .int, .int, .long]
  resolved := Array.replicate 524 none
  statics := none }

def pool9 : Array CpInfo := pool [(1, .class_ 2), (0, u "java/lang/Integer"), (16, u "digits"), (0, u "[C"), (32, u "numberOfLeadingZeros"), (0, u "(I)I"), (30, u "DigitOnes"), (0, u "[B"), (2, u "DigitTens"), (99, .class_ 190), (0, u "java/lang/Integer$IntegerCache"), (3, u "I"), (8, .class_ 204), (0, u "java/lang/Number"), (2, u "value"), (56, .integer 65536), (37, u "TYPE"), (0, u "Ljava/lang/Class;"), (0, .class_ 305), (0, u "java/lang/Comparable"), (0, .class_ 307), (0, u "java/lang/constant/Constable"), (0, .class_ 309), (0, u "java/lang/constant/ConstantDesc"), (0, u "MIN_VALUE"), (1, u "MAX_VALUE"), (3, u "SIZE"), (1, u "BYTES"), (1, u "serialVersionUID"), (0, u "J")] 131

def k9c0 : Code := { maxStack := 3, maxLocals := 2, code := jdk_33_method_47_code, exceptionTable := #[], attributes := #[] }
def k9m0 : Method := { name := "numberOfLeadingZeros", desc := "(I)I", sig := { parameters := [.int], returnType := some .int }, accessFlags := 9, code := some k9c0 }
/-- java/lang/Integer -/
def k9 : Class := { plain "java/lang/Integer" (some 4) with
  accessFlags := 49
  interfaces := #[5, 6, 7]
  cf := some (fileOf pool9 1 #[.nestMembers #[189]] #[{ accessFlags := 9, nameIndex := 53, descriptorIndex := 54, attributes := #[] }] 49 203 #[304, 306, 308] #[{ accessFlags := 25, nameIndex := 310, descriptorIndex := 194, attributes := #[] }, { accessFlags := 25, nameIndex := 312, descriptorIndex := 194, attributes := #[] }, { accessFlags := 25, nameIndex := 302, descriptorIndex := 303, attributes := #[] }, { accessFlags := 24, nameIndex := 19, descriptorIndex := 20, attributes := #[] }, { accessFlags := 24, nameIndex := 89, descriptorIndex := 86, attributes := #[] }, { accessFlags := 24, nameIndex := 85, descriptorIndex := 86, attributes := #[] }, { accessFlags := 18, nameIndex := 207, descriptorIndex := 194, attributes := #[] }, { accessFlags := 25, nameIndex := 316, descriptorIndex := 194, attributes := #[] }, { accessFlags := 25, nameIndex := 318, descriptorIndex := 194, attributes := #[] }, { accessFlags := 26, nameIndex := 320, descriptorIndex := 321, attributes := #[] }])
  fields := #[{ name := "MIN_VALUE", type := .int, accessFlags := 25, slot := 0, constantValue := 0 }, { name := "MAX_VALUE", type := .int, accessFlags := 25, slot := 1, constantValue := 0 }, { name := "TYPE", type := (.object "java/lang/Class"), accessFlags := 25, slot := 2, constantValue := 0 }, { name := "digits", type := (.array .char), accessFlags := 24, slot := 3, constantValue := 0 }, { name := "DigitTens", type := (.array .byte), accessFlags := 24, slot := 4, constantValue := 0 }, { name := "DigitOnes", type := (.array .byte), accessFlags := 24, slot := 5, constantValue := 0 }, { name := "value", type := .int, accessFlags := 18, slot := 0, constantValue := 0 }, { name := "SIZE", type := .int, accessFlags := 25, slot := 6, constantValue := 0 }, { name := "BYTES", type := .int, accessFlags := 25, slot := 7, constantValue := 0 }, { name := "serialVersionUID", type := .long, accessFlags := 26, slot := 8, constantValue := 0 }]
  methods := #[k9m0]
  instanceTypes := #[.int]
  staticTypes := #[.int, .int, (.object "java/lang/Class"), (.array .char), (.array .byte), (.array .byte), .int, .int, .long]
  resolved := Array.replicate 453 none
  statics := none }

def pool10 : Array CpInfo := pool [(1, .class_ 2), (0, u "java/lang/Math"), (1, .class_ 6), (1, u "java/lang/Object"), (0, u "<init>"), (0, u "()V"), (89, .class_ 100), (1, u "java/lang/Math$RandomNumberGeneratorHolder"), (20, u "(JJ)J"), (50, u "negativeZeroFloatBits"), (0, u "J"), (2, u "negativeZeroDoubleBits"), (21, u "max"), (2, u "min"), (43, u "$assertionsDisabled"), (0, u "Z"), (88, u "(II)I"), (2, u "twoToTheDoubleScaleDown"), (0, u "D"), (4, u "twoToTheDoubleScaleUp"), (9, u "E"), (3, u "PI"), (2, u "TAU"), (2, u "DEGREES_TO_RADIANS"), (0, u "RADIANS_TO_DEGREES")] 94

def k10m0 : Method := { name := "<init>", desc := "()V", sig := { parameters := [], returnType := none }, accessFlags := 2, code := none }
def k10c1 : Code := { maxStack := 2, maxLocals := 2, code := jdk_29_method_65_code, exceptionTable := #[], attributes := #[] }
def k10m1 : Method := { name := "max", desc := "(II)I", sig := { parameters := [.int, .int], returnType := some .int }, accessFlags := 9, code := some k10c1 }
def k10c2 : Code := { maxStack := 4, maxLocals := 4, code := jdk_29_method_66_code, exceptionTable := #[], attributes := #[] }
def k10m2 : Method := { name := "max", desc := "(JJ)J", sig := { parameters := [.long, .long], returnType := some .long }, accessFlags := 9, code := some k10c2 }
def k10c3 : Code := { maxStack := 4, maxLocals := 4, code := jdk_29_method_70_code, exceptionTable := #[], attributes := #[] }
def k10m3 : Method := { name := "min", desc := "(JJ)J", sig := { parameters := [.long, .long], returnType := some .long }, accessFlags := 9, code := some k10c3 }
/-- java/lang/Math -/
def k10 : Class := { plain "java/lang/Math" (some 0) with
  accessFlags := 49
  interfaces := #[]
  cf := some (fileOf pool10 1 #[.nestMembers #[98]] #[{ accessFlags := 2, nameIndex := 7, descriptorIndex := 8, attributes := #[] }, { accessFlags := 9, nameIndex := 198, descriptorIndex := 335, attributes := #[] }, { accessFlags := 9, nameIndex := 198, descriptorIndex := 121, attributes := #[] }, { accessFlags := 9, nameIndex := 201, descriptorIndex := 121, attributes := #[] }] 49 4 #[] #[{ accessFlags := 25, nameIndex := 354, descriptorIndex := 339, attributes := #[] }, { accessFlags := 25, nameIndex := 358, descriptorIndex := 339, attributes := #[] }, { accessFlags := 25, nameIndex := 361, descriptorIndex := 339, attributes := #[] }, { accessFlags := 26, nameIndex := 364, descriptorIndex := 339, attributes := #[] }, { accessFlags := 26, nameIndex := 365, descriptorIndex := 339, attributes := #[] }, { accessFlags := 26, nameIndex := 172, descriptorIndex := 173, attributes := #[] }, { accessFlags := 26, nameIndex := 176, descriptorIndex := 173, attributes := #[] }, { accessFlags := 8, nameIndex := 344, descriptorIndex := 339, attributes := #[] }, { accessFlags := 8, nameIndex := 338, descriptorIndex := 339, attributes := #[] }, { accessFlags := 4120, nameIndex := 245, descriptorIndex := 246, attributes := #[] }])
  fields := #[{ name := "E", type := .double, accessFlags := 25, slot := 0, constantValue := 0 }, { name := "PI", type := .double, accessFlags := 25, slot := 1, constantValue := 0 }, { name := "TAU", type := .double, accessFlags := 25, slot := 2, constantValue := 0 }, { name := "DEGREES_TO_RADIANS", type := .double, accessFlags := 26, slot := 3, constantValue := 0 }, { name := "RADIANS_TO_DEGREES", type := .double, accessFlags := 26, slot := 4, constantValue := 0 }, { name := "negativeZeroFloatBits", type := .long, accessFlags := 26, slot := 5, constantValue := 0 }, { name := "negativeZeroDoubleBits", type := .long, accessFlags := 26, slot := 6, constantValue := 0 }, { name := "twoToTheDoubleScaleUp", type := .double, accessFlags := 8, slot := 7, constantValue := 0 }, { name := "twoToTheDoubleScaleDown", type := .double, accessFlags := 8, slot := 8, constantValue := 0 }, { name := "$assertionsDisabled", type := .boolean, accessFlags := 4120, slot := 9, constantValue := 0 }]
  methods := #[k10m0, k10m1, k10m2, k10m3]
  instanceTypes := #[]
  staticTypes := #[.double, .double, .double, .double, .double, .long, .long, .double, .double, .boolean]
  resolved := Array.replicate 460 none
  statics := none }

def pool11 : Array CpInfo := pool [(2, .class_ 4), (1, u "java/lang/Object"), (0, u "<init>"), (0, u "()V"), (7, .class_ 16), (1, u "java/util/Arrays"), (57, .class_ 76), (1, u "java/util/Arrays$NaturalOrder"), (36, .class_ 115), (1, u "java/util/Arrays$LegacyMergeSort"), (1, u "Z"), (257, .class_ 376), (0, u "java/util/Arrays$ArrayList"), (68, u "$assertionsDisabled"), (269, u "MIN_ARRAY_SORT_GRAN"), (0, u "I"), (2, u "INSERTIONSORT_THRESHOLD"), (120, u "fill"), (0, u "([JJ)V"), (133, .class_ 976), (0, u "java/util/Arrays$ArrayItr")] 52

def k11m0 : Method := { name := "<init>", desc := "()V", sig := { parameters := [], returnType := none }, accessFlags := 2, code := none }
def k11c1 : Code := { maxStack := 4, maxLocals := 5, code := jdk_65_method_101_code, exceptionTable := #[], attributes := #[] }
def k11m1 : Method := { name := "fill", desc := "([JJ)V", sig := { parameters := [(.array .long), .long], returnType := none }, accessFlags := 9, code := some k11c1 }
/-- java/util/Arrays -/
def k11 : Class := { plain "java/util/Arrays" (some 0) with
  accessFlags := 49
  interfaces := #[]
  cf := some (fileOf pool11 14 #[.nestMembers #[975, 375, 113, 74]] #[{ accessFlags := 2, nameIndex := 5, descriptorIndex := 6, attributes := #[] }, { accessFlags := 9, nameIndex := 840, descriptorIndex := 841, attributes := #[] }] 49 2 #[] #[{ accessFlags := 26, nameIndex := 715, descriptorIndex := 716, attributes := #[] }, { accessFlags := 26, nameIndex := 719, descriptorIndex := 716, attributes := #[] }, { accessFlags := 4120, nameIndex := 445, descriptorIndex := 117, attributes := #[] }])
  fields := #[{ name := "MIN_ARRAY_SORT_GRAN", type := .int, accessFlags := 26, slot := 0, constantValue := 0 }, { name := "INSERTIONSORT_THRESHOLD", type := .int, accessFlags := 26, slot := 1, constantValue := 0 }, { name := "$assertionsDisabled", type := .boolean, accessFlags := 4120, slot := 2, constantValue := 0 }]
  methods := #[k11m0, k11m1]
  instanceTypes := #[]
  staticTypes := #[.int, .int, .boolean]
  resolved := Array.replicate 1029 none
  statics := none }

def pool12 : Array CpInfo := pool [(1, u "java/lang/Cloneable"), (0, .class_ 1), (0, u "java/lang/Object"), (0, .class_ 3)] 3

/-- java/lang/Cloneable -/
def k12 : Class := { plain "java/lang/Cloneable" (some 0) with
  accessFlags := 1537
  interfaces := #[]
  cf := some (fileOf pool12 2 #[] #[] 1537 4 #[] #[])
  fields := #[]
  methods := #[]
  instanceTypes := #[]
  staticTypes := #[]
  resolved := Array.replicate 8 none
  statics := none }

/-- the primitive byte -/
def k13 : Class := { plain "byte" none with kind := .primitive 'B', accessFlags := 0x411 }
/-- [B -/
def k14 : Class := { plain "[B" (some 0) with kind := .array 13 .byte, interfaces := #[12, 3], accessFlags := 1041 }

/-- the primitive int -/
def k15 : Class := { plain "int" none with kind := .primitive 'I', accessFlags := 0x411 }
/-- [I -/
def k16 : Class := { plain "[I" (some 0) with kind := .array 15 .int, interfaces := #[12, 3], accessFlags := 1041 }

/-- the primitive long -/
def k17 : Class := { plain "long" none with kind := .primitive 'J', accessFlags := 0x411 }
/-- [J -/
def k18 : Class := { plain "[J" (some 0) with kind := .array 17 .long, interfaces := #[12, 3], accessFlags := 1041 }

/-- [[J -/
def k19 : Class := { plain "[[J" (some 0) with kind := .array 18 (.array .long), interfaces := #[12, 3], accessFlags := 1041 }

def heap : Heap := #[]
def classes : Array Class := #[k0, k1, k2, k3, k4, k5, k6, k7, k8, k9, k10, k11, k12, k13, k14, k15, k16, k17, k18, k19]
def interned : List (Array UInt16 × Addr) := []
def slotsUsed : Nat := 0
def theMethod : MethodId := ⟨1, 1⟩
def args0 : Array Value := #[.long 5, .long 7, .long 3, .long 9, .int 4, .int 1]
def aboutOver (below : List Frame) : State where
  vm := { classes := classes, interned := interned.toArray }
  heap := heap
  slotsUsed := slotsUsed
  threads := #[{ frames := .invoking theMethod args0 :: below }]
def below0 : List Frame := [.native { method := ⟨0, 0⟩, args := #[] }]
def about1 : State := aboutOver below0
def p0 : Program := .bare "" "" ""
def e0 : Env := launch0.env 0 0 0
theorem w_frames : about1.frames = Frame.invoking theMethod args0 :: below0 := rfl
set_option maxRecDepth 65536 in
theorem w_args : argsFit about1.vm theMethod args0 = true := by decide +kernel
set_option maxRecDepth 65536 in
theorem w_heap : heapFits about1 = true := by decide +kernel
set_option maxRecDepth 65536 in
theorem w_runnable : about1.curStatus? = some .runnable := by decide +kernel
set_option maxRecDepth 65536 in
theorem w_alone : about1.alone = true := by decide +kernel
set_option maxRecDepth 65536 in
theorem w_named : about1.methodNamed? x = some theMethod := by decide +kernel
set_option maxRecDepth 65536 in
theorem w_hears : about1.hears theMethod below0 = true := by decide +kernel
set_option maxRecDepth 65536 in
theorem w_ripe : about1.ripe theMethod args0 below0 = true := by decide +kernel
theorem w_running : about1.status = .running := rfl
set_option maxRecDepth 65536 in
theorem w_room : about1.hasRoom e0.platform room_1 = true :=
  launch0.hasRoom_least _ room_1 (by decide +kernel) (by decide +kernel) (by decide +kernel) (by decide +kernel) (by decide +kernel) (by decide +kernel)
theorem allAtoms_all (ts : List Jvm.Cond) (a : Array Jvm.Value) (st : Jvm.State) : (allAtoms ts).before a st = ts.all (fun c => c.before a st) := by
  induction ts with
  | nil => rfl
  | cons c t ih =>
    show (Jvm.Cond.and c (allAtoms t)).before a st = _
    rw [Jvm.Cond.before_and, ih, List.all_cons]
def words1 : List Jvm.Cond := Jvm.Cond.code x code maxLocals ret :: tables_1
/-- a 'code' word, met by the world's own term for the bytes: nothing is compared byte by byte -/
theorem code_word {y : MethodName} {bytes : ByteArray} {mx : Nat} {rt : Option FieldType} {a : Array Value} {s : State} {m : MethodId} {meth : Method} {c : Code} (h1 : s.methodNamed? y = some m) (h2 : s.vm.method? m = some meth) (h3 : meth.code = some c) (h4 : c.code = bytes)
    (h5 : (c.maxLocals == mx && c.exceptionTable.isEmpty && decide (c.maxStack ≤ mostOperands) && decide (meth.sig.returnType = rt) && !meth.locks && decide (parseMethodDescriptor y.desc = some meth.sig)) = true) : (Jvm.Cond.code y bytes mx rt).before a s = true := by
  simp only [Bool.and_eq_true, beq_iff_eq, Bool.not_eq_true', decide_eq_true_eq] at h5
  obtain ⟨⟨⟨⟨⟨g1, g2⟩, g3⟩, g4⟩, g5⟩, g6⟩ := h5
  simp [Cond.before, Cond.holds, Cond.value, h1, h2, h3, h4, g1, g2, g3, g4, g5, g6]
def isCode : Jvm.Cond → Bool
  | .code _ _ _ _ => true
  | _ => false
theorem all_split {L : List Jvm.Cond} {P : Jvm.Cond → Bool} (h1 : L.all (fun c => isCode c || P c) = true) (h2 : ∀ c ∈ L.filter isCode, P c = true) : L.all P = true := by
  refine List.all_eq_true.mpr fun c hc => ?_
  have h := List.all_eq_true.mp h1 c hc
  rcases Bool.eq_false_or_eq_true (isCode c) with hi | hi
  · exact h2 c (List.mem_filter.mpr ⟨hc, hi⟩)
  · simpa [hi] using h
set_option maxRecDepth 65536 in
theorem w_c0 : (Jvm.Cond.code x code maxLocals ret).before args0 about1 = true := code_word (m := ⟨1, 1⟩) (meth := k1m1) (c := k1c1) (by decide +kernel) rfl rfl rfl (by decide +kernel)
set_option maxRecDepth 65536 in
theorem w_c1 : (Jvm.Cond.code ({ cls := "com/example/oswego/oswego/RunTimeHistogram", name := "<init>", desc := "()V" } : Jvm.MethodName) prog_19_method_1_code (1 : Nat) (Option.none : Option Jvm.ClassFile.FieldType)).before args0 about1 = true := code_word (m := ⟨2, 0⟩) (meth := k2m0) (c := k2c0) (by decide +kernel) rfl rfl rfl (by decide +kernel)
set_option maxRecDepth 65536 in
theorem w_c2 : (Jvm.Cond.code ({ cls := "java/lang/Object", name := "<init>", desc := "()V" } : Jvm.MethodName) object_method_1_code (1 : Nat) (Option.none : Option Jvm.ClassFile.FieldType)).before args0 about1 = true := code_word (m := ⟨0, 0⟩) (meth := k0m0) (c := k0c0) (by decide +kernel) rfl rfl rfl (by decide +kernel)
set_option maxRecDepth 65536 in
theorem w_c3 : (Jvm.Cond.code ({ cls := "com/example/oswego/oswego/RunTimeHistogram", name := "clear", desc := "()V" } : Jvm.MethodName) prog_19_method_4_code (5 : Nat) (Option.none : Option Jvm.ClassFile.FieldType)).before args0 about1 = true := code_word (m := ⟨2, 2⟩) (meth := k2m2) (c := k2c2) (by decide +kernel) rfl rfl rfl (by decide +kernel)
set_option maxRecDepth 65536 in
theorem w_c4 : (Jvm.Cond.code ({ cls := "com/example/oswego/oswego/RunTimeHistogram", name := "count", desc := "()J" } : Jvm.MethodName) prog_19_method_5_code (1 : Nat) (Option.some Jvm.ClassFile.FieldType.long)).before args0 about1 = true := code_word (m := ⟨2, 3⟩) (meth := k2m3) (c := k2c3) (by decide +kernel) rfl rfl rfl (by decide +kernel)
set_option maxRecDepth 65536 in
theorem w_c5 : (Jvm.Cond.code ({ cls := "com/example/oswego/oswego/RunTimeHistogram", name := "max", desc := "()J" } : Jvm.MethodName) prog_19_method_8_code (1 : Nat) (Option.some Jvm.ClassFile.FieldType.long)).before args0 about1 = true := code_word (m := ⟨2, 6⟩) (meth := k2m6) (c := k2c6) (by decide +kernel) rfl rfl rfl (by decide +kernel)
set_option maxRecDepth 65536 in
theorem w_c6 : (Jvm.Cond.code ({ cls := "com/example/oswego/oswego/RunTimeHistogram", name := "record", desc := "(J)V" } : Jvm.MethodName) prog_19_method_2_code (4 : Nat) (Option.none : Option Jvm.ClassFile.FieldType)).before args0 about1 = true := code_word (m := ⟨2, 1⟩) (meth := k2m1) (c := k2c1) (by decide +kernel) rfl rfl rfl (by decide +kernel)
set_option maxRecDepth 65536 in
theorem w_c7 : (Jvm.Cond.code ({ cls := "com/example/oswego/oswego/RunTimeHistogram", name := "rangeOf", desc := "(J)I" } : Jvm.MethodName) prog_19_method_11_code (2 : Nat) (Option.some Jvm.ClassFile.FieldType.int)).before args0 about1 = true := code_word (m := ⟨2, 9⟩) (meth := k2m9) (c := k2c9) (by decide +kernel) rfl rfl rfl (by decide +kernel)
set_option maxRecDepth 65536 in
theorem w_c8 : (Jvm.Cond.code ({ cls := "java/lang/Long", name := "numberOfLeadingZeros", desc := "(J)I" } : Jvm.MethodName) jdk_35_method_48_code (3 : Nat) (Option.some Jvm.ClassFile.FieldType.int)).before args0 about1 = true := code_word (m := ⟨8, 0⟩) (meth := k8m0) (c := k8c0) (by decide +kernel) rfl rfl rfl (by decide +kernel)
set_option maxRecDepth 65536 in
theorem w_c9 : (Jvm.Cond.code ({ cls := "java/lang/Integer", name := "numberOfLeadingZeros", desc := "(I)I" } : Jvm.MethodName) jdk_33_method_47_code (2 : Nat) (Option.some Jvm.ClassFile.FieldType.int)).before args0 about1 = true := code_word (m := ⟨9, 0⟩) (meth := k9m0) (c := k9c0) (by decide +kernel) rfl rfl rfl (by decide +kernel)
set_option maxRecDepth 65536 in
theorem w_c10 : (Jvm.Cond.code ({ cls := "java/lang/Math", name := "max", desc := "(II)I" } : Jvm.MethodName) jdk_29_method_65_code (2 : Nat) (Option.some Jvm.ClassFile.FieldType.int)).before args0 about1 = true := code_word (m := ⟨10, 1⟩) (meth := k10m1) (c := k10c1) (by decide +kernel) rfl rfl rfl (by decide +kernel)
set_option maxRecDepth 65536 in
theorem w_c11 : (Jvm.Cond.code ({ cls := "com/example/oswego/oswego/RunTimeHistogram", name := "subBucketOf", desc := "(JI)I" } : Jvm.MethodName) prog_19_method_12_code (3 : Nat) (Option.some Jvm.ClassFile.FieldType.int)).before args0 about1 = true := code_word (m := ⟨2, 10⟩) (meth := k2m10) (c := k2c10) (by decide +kernel) rfl rfl rfl (by decide +kernel)
set_option maxRecDepth 65536 in
theorem w_c12 : (Jvm.Cond.code ({ cls := "com/example/oswego/oswego/RunTimeHistogram", name := "widthBits", desc := "(I)I" } : Jvm.MethodName) prog_19_method_14_code (1 : Nat) (Option.some Jvm.ClassFile.FieldType.int)).before args0 about1 = true := code_word (m := ⟨2, 12⟩) (meth := k2m12) (c := k2c12) (by decide +kernel) rfl rfl rfl (by decide +kernel)
set_option maxRecDepth 65536 in
theorem w_c13 : (Jvm.Cond.code ({ cls := "java/lang/Math", name := "min", desc := "(JJ)J" } : Jvm.MethodName) jdk_29_method_70_code (4 : Nat) (Option.some Jvm.ClassFile.FieldType.long)).before args0 about1 = true := code_word (m := ⟨10, 3⟩) (meth := k10m3) (c := k10c3) (by decide +kernel) rfl rfl rfl (by decide +kernel)
set_option maxRecDepth 65536 in
theorem w_c14 : (Jvm.Cond.code ({ cls := "java/lang/Math", name := "max", desc := "(JJ)J" } : Jvm.MethodName) jdk_29_method_66_code (4 : Nat) (Option.some Jvm.ClassFile.FieldType.long)).before args0 about1 = true := code_word (m := ⟨10, 2⟩) (meth := k10m2) (c := k10c2) (by decide +kernel) rfl rfl rfl (by decide +kernel)
set_option maxRecDepth 65536 in
theorem w_c15 : (Jvm.Cond.code ({ cls := "com/example/oswego/oswego/RunTimeHistogram", name := "sum", desc := "()J" } : Jvm.MethodName) prog_19_method_6_code (1 : Nat) (Option.some Jvm.ClassFile.FieldType.long)).before args0 about1 = true := code_word (m := ⟨2, 4⟩) (meth := k2m4) (c := k2c4) (by decide +kernel) rfl rfl rfl (by decide +kernel)
set_option maxRecDepth 65536 in
theorem w_c16 : (Jvm.Cond.code ({ cls := "com/example/oswego/oswego/RunTimeHistogram", name := "min", desc := "()J" } : Jvm.MethodName) prog_19_method_7_code (1 : Nat) (Option.some Jvm.ClassFile.FieldType.long)).before args0 about1 = true := code_word (m := ⟨2, 5⟩) (meth := k2m5) (c := k2c5) (by decide +kernel) rfl rfl rfl (by decide +kernel)
set_option maxRecDepth 65536 in
theorem w_c17 : (Jvm.Cond.code ({ cls := "com/example/oswego/oswego/RunTimeHistogram", name := "percentile", desc := "(I)J" } : Jvm.MethodName) prog_19_method_9_code (6 : Nat) (Option.some Jvm.ClassFile.FieldType.long)).before args0 about1 = true := code_word (m := ⟨2, 7⟩) (meth := k2m7) (c := k2c7) (by decide +kernel) rfl rfl rfl (by decide +kernel)
set_option maxRecDepth 65536 in
theorem w_c18 : (Jvm.Cond.code ({ cls := "java/util/Arrays", name := "fill", desc := "([JJ)V" } : Jvm.MethodName) jdk_65_method_101_code (5 : Nat) (Option.none : Option Jvm.ClassFile.FieldType)).before args0 about1 = true := code_word (m := ⟨11, 1⟩) (meth := k11m1) (c := k11c1) (by decide +kernel) rfl rfl rfl (by decide +kernel)
set_option maxRecDepth 65536 in
theorem w_c19 : (Jvm.Cond.code ({ cls := "com/example/oswego/oswego/RunTimeHistogram", name := "bucketMiddleAt", desc := "(J)J" } : Jvm.MethodName) prog_19_method_10_code (8 : Nat) (Option.some Jvm.ClassFile.FieldType.long)).before args0 about1 = true := code_word (m := ⟨2, 8⟩) (meth := k2m8) (c := k2c8) (by decide +kernel) rfl rfl rfl (by decide +kernel)
set_option maxRecDepth 65536 in
theorem w_c20 : (Jvm.Cond.code ({ cls := "com/example/oswego/oswego/RunTimeHistogram", name := "middleOf", desc := "(II)J" } : Jvm.MethodName) prog_19_method_13_code (4 : Nat) (Option.some Jvm.ClassFile.FieldType.long)).before args0 about1 = true := code_word (m := ⟨2, 11⟩) (meth := k2m11) (c := k2c11) (by decide +kernel) rfl rfl rfl (by decide +kernel)
def codes1 : List Jvm.Cond := [Jvm.Cond.code x code maxLocals ret, Jvm.Cond.code ({ cls := "com/example/oswego/oswego/RunTimeHistogram", name := "<init>", desc := "()V" } : Jvm.MethodName) prog_19_method_1_code (1 : Nat) (Option.none : Option Jvm.ClassFile.FieldType), Jvm.Cond.code ({ cls := "java/lang/Object", name := "<init>", desc := "()V" } : Jvm.MethodName) object_method_1_code (1 : Nat) (Option.none : Option Jvm.ClassFile.FieldType), Jvm.Cond.code ({ cls := "com/example/oswego/oswego/RunTimeHistogram", name := "clear", desc := "()V" } : Jvm.MethodName) prog_19_method_4_code (5 : Nat) (Option.none : Option Jvm.ClassFile.FieldType), Jvm.Cond.code ({ cls := "com/example/oswego/oswego/RunTimeHistogram", name := "count", desc := "()J" } : Jvm.MethodName) prog_19_method_5_code (1 : Nat) (Option.some Jvm.ClassFile.FieldType.long), Jvm.Cond.code ({ cls := "com/example/oswego/oswego/RunTimeHistogram", name := "max", desc := "()J" } : Jvm.MethodName) prog_19_method_8_code (1 : Nat) (Option.some Jvm.ClassFile.FieldType.long), Jvm.Cond.code ({ cls := "com/example/oswego/oswego/RunTimeHistogram", name := "record", desc := "(J)V" } : Jvm.MethodName) prog_19_method_2_code (4 : Nat) (Option.none : Option Jvm.ClassFile.FieldType), Jvm.Cond.code ({ cls := "com/example/oswego/oswego/RunTimeHistogram", name := "rangeOf", desc := "(J)I" } : Jvm.MethodName) prog_19_method_11_code (2 : Nat) (Option.some Jvm.ClassFile.FieldType.int), Jvm.Cond.code ({ cls := "java/lang/Long", name := "numberOfLeadingZeros", desc := "(J)I" } : Jvm.MethodName) jdk_35_method_48_code (3 : Nat) (Option.some Jvm.ClassFile.FieldType.int), Jvm.Cond.code ({ cls := "java/lang/Integer", name := "numberOfLeadingZeros", desc := "(I)I" } : Jvm.MethodName) jdk_33_method_47_code (2 : Nat) (Option.some Jvm.ClassFile.FieldType.int), Jvm.Cond.code ({ cls := "java/lang/Math", name := "max", desc := "(II)I" } : Jvm.MethodName) jdk_29_method_65_code (2 : Nat) (Option.some Jvm.ClassFile.FieldType.int), Jvm.Cond.code ({ cls := "com/example/oswego/oswego/RunTimeHistogram", name := "subBucketOf", desc := "(JI)I" } : Jvm.MethodName) prog_19_method_12_code (3 : Nat) (Option.some Jvm.ClassFile.FieldType.int), Jvm.Cond.code ({ cls := "com/example/oswego/oswego/RunTimeHistogram", name := "widthBits", desc := "(I)I" } : Jvm.MethodName) prog_19_method_14_code (1 : Nat) (Option.some Jvm.ClassFile.FieldType.int), Jvm.Cond.code ({ cls := "java/lang/Math", name := "min", desc := "(JJ)J" } : Jvm.MethodName) jdk_29_method_70_code (4 : Nat) (Option.some Jvm.ClassFile.FieldType.long), Jvm.Cond.code ({ cls := "java/lang/Math", name := "max", desc := "(JJ)J" } : Jvm.MethodName) jdk_29_method_66_code (4 : Nat) (Option.some Jvm.ClassFile.FieldType.long), Jvm.Cond.code ({ cls := "com/example/oswego/oswego/RunTimeHistogram", name := "sum", desc := "()J" } : Jvm.MethodName) prog_19_method_6_code (1 : Nat) (Option.some Jvm.ClassFile.FieldType.long), Jvm.Cond.code ({ cls := "com/example/oswego/oswego/RunTimeHistogram", name := "min", desc := "()J" } : Jvm.MethodName) prog_19_method_7_code (1 : Nat) (Option.some Jvm.ClassFile.FieldType.long), Jvm.Cond.code ({ cls := "com/example/oswego/oswego/RunTimeHistogram", name := "percentile", desc := "(I)J" } : Jvm.MethodName) prog_19_method_9_code (6 : Nat) (Option.some Jvm.ClassFile.FieldType.long), Jvm.Cond.code ({ cls := "java/util/Arrays", name := "fill", desc := "([JJ)V" } : Jvm.MethodName) jdk_65_method_101_code (5 : Nat) (Option.none : Option Jvm.ClassFile.FieldType), Jvm.Cond.code ({ cls := "com/example/oswego/oswego/RunTimeHistogram", name := "bucketMiddleAt", desc := "(J)J" } : Jvm.MethodName) prog_19_method_10_code (8 : Nat) (Option.some Jvm.ClassFile.FieldType.long), Jvm.Cond.code ({ cls := "com/example/oswego/oswego/RunTimeHistogram", name := "middleOf", desc := "(II)J" } : Jvm.MethodName) prog_19_method_13_code (4 : Nat) (Option.some Jvm.ClassFile.FieldType.long)]
set_option maxRecDepth 65536 in
theorem codes_eq : words1.filter isCode = codes1 := rfl
theorem w_codes : ∀ c ∈ words1.filter isCode, c.before args0 about1 = true := by
  rw [codes_eq]
  intro c hc
  simp only [codes1, List.mem_cons, List.not_mem_nil, or_false] at hc
  rcases hc with rfl | rfl | rfl | rfl | rfl | rfl | rfl | rfl | rfl | rfl | rfl | rfl | rfl | rfl | rfl | rfl | rfl | rfl | rfl | rfl | rfl
  · exact w_c0
  · exact w_c1
  · exact w_c2
  · exact w_c3
  · exact w_c4
  · exact w_c5
  · exact w_c6
  · exact w_c7
  · exact w_c8
  · exact w_c9
  · exact w_c10
  · exact w_c11
  · exact w_c12
  · exact w_c13
  · exact w_c14
  · exact w_c15
  · exact w_c16
  · exact w_c17
  · exact w_c18
  · exact w_c19
  · exact w_c20
set_option maxRecDepth 65536 in
theorem w_t1 : (words1.take 24).all (fun c => isCode c || c.before args0 about1) = true := by decide +kernel
set_option maxRecDepth 65536 in
theorem w_t2 : ((words1.drop 24).take 24).all (fun c => isCode c || c.before args0 about1) = true := by decide +kernel
set_option maxRecDepth 65536 in
theorem w_t3 : (((words1.drop 24).drop 24).take 24).all (fun c => isCode c || c.before args0 about1) = true := by decide +kernel
set_option maxRecDepth 65536 in
theorem w_t4 : ((((words1.drop 24).drop 24).drop 24).take 24).all (fun c => isCode c || c.before args0 about1) = true := by decide +kernel
set_option maxRecDepth 65536 in
theorem w_t5 : ((((words1.drop 24).drop 24).drop 24).drop 24).all (fun c => isCode c || c.before args0 about1) = true := by decide +kernel
theorem w_tables : (allAtoms (Jvm.Cond.code x code maxLocals ret :: tables_1)).before args0 about1 = true := by
  rw [allAtoms_all]
  show words1.all (fun c => c.before args0 about1) = true
  refine all_split ?_ w_codes
  rw [← List.take_append_drop 24 words1, List.all_append, w_t1, ← List.take_append_drop 24 (words1.drop 24), List.all_append, w_t2, ← List.take_append_drop 24 ((words1.drop 24).drop 24), List.all_append, w_t3, ← List.take_append_drop 24 (((words1.drop 24).drop 24).drop 24), List.all_append, w_t4, w_t5]
  rfl
set_option maxRecDepth 65536 in
theorem w_case : (Jvm.Cond.and given_1 narrow_1).before args0 about1 = true := by decide +kernel
theorem w_applies : (headSpec (Jvm.Cond.code x code maxLocals ret :: tables_1) room_1).applies x e0.platform about1 = true :=
  (Spec.applies_iff w_frames).mpr ⟨w_running, w_runnable, w_alone, w_named, w_hears, w_ripe, w_room, w_tables⟩
theorem atStart : AtStart classFile x code maxLocals ret World_1 tables_1 room_1 Calls_1 rest_1 Pre_1 launch0 p0 e0 about1 theMethod args0 below0 :=
  ⟨lists_1, trivial, launch0.admits_env _ _ _, launch0.least_env, fairChoices_fair.cas, fairChoices_fair.clock, w_frames, w_args, w_heap, w_applies, trivial, trivial, w_case⟩
end start1
theorem witness_1 : WitnessClaimed_1 := ⟨start1.p0, start1.e0, start1.about1, start1.theMethod, start1.args0, start1.below0, start1.atStart⟩
end Jvm.Pilot.@@N@@
