import JvmDerived
import JvmDerived.Pilot.@@N@@Statement
import JvmDerived.Pilot.@@N@@Code
set_option linter.unusedVariables false
set_option linter.unusedSimpArgs false
namespace Jvm.Pilot.@@N@@
open Jvm Jvm.ClassFile Sem Op Lib Jvm.Free Jvm.Stand Jvm.LawKit Jvm.RoadKit Bundle Jvm.Pilot.@@N@@.Jvm.D
def G (p : Program) (l : Launch) (e : Env) (R : Room) (s : State) (m : MethodId) (args : Array Value) (below : List Frame) (meth : Method) (c : Code) (n0 : Nat) (Q : Option Value → Heap → Prop) (h : Heap) (k n : Nat) (pc : Nat) (Ls : Array Slot) (st : List Value) : Prop :=
  ∀ T locs cells slots, Stand p l e R s m args below meth c T locs cells slots → Fr n0 locs → T.heap = h → cells ≤ k → slots ≤ n →
    ∃ s₂ o, Steps p.tables e below (T.setTop (mkF m pc Ls st)) s₂ ∧ s₂.status = .running ∧ Ended s₂ below o ∧ ∃ v L, o = .returned v ∧ (Q v s₂.heap ∧ Fr n0 L) ∧ FrameEnd s o s₂ L R.cells R.slots
def Cx (Z : State) (p : Program) (s : State) (m : MethodId) (meth : Method) (c : Code) (R : Room) (k n : Nat) (own nm : String) (code : ByteArray) (maxL : Nat) (ret : Option FieldType) : Prop :=
  p.tables.exec = Jvm.exec ∧ Z.Warmed39 s.vm ∧ s.vm.findClass own = some m.cls ∧ c.code = code ∧ c.maxLocals = maxL ∧ meth.sig.returnType = ret ∧ meth.name = nm ∧ meth.locks = false
def Dc (code : ByteArray) (pc : Nat) (i : Instr) (len pc' : Nat) : Prop := decode code pc = .ok (i, len) ∧ pc + len = pc'
def Bi (code : ByteArray) (pc : Nat) (f : Int → Instr) (pcY pcN : Nat) : Prop := ∃ o, decode code pc = .ok (f o, 3) ∧ 0 ≤ (pc : Int) + o ∧ ((pc : Int) + o).toNat = pcY ∧ pc + 3 = pcN
def Met (l : Launch) (Z : State) (y : MethodName) (bytes : ByteArray) (maxL : Nat) (ret : Option FieldType) (rm : Room) (as : Array Value) (h0 : Heap) (Q : Option Value → Heap → Prop) : Prop :=
  ∀ ws, MetFree l y (head1 (Jvm.Cond.code y bytes maxL ret :: ws) rm) (fun a U => a = as ∧ Z.Warmed39 U.vm ∧ U.heap = h0) (fun _ _ _ _ _ => True) (fun _ U o U' => ∃ v L, o = .returned v ∧ (Q v U'.heap ∧ Fr Z.heap.size L) ∧ FrameEnd U o U' L rm.cells rm.slots)

def Arx (Z : State) (h : Heap) (a : Addr) (k : ClassId) (ty : FieldType) (z : Int32) (vs : List Value) (dv : Value) (ad : String) : Prop := Arv Z h a k ty z vs dv ∧ Exa Z h a ad
section ArxS
variable {Z : State} {h h' : Heap} {a x : Addr} {k : ClassId} {ty : FieldType} {z : Int32} {vs vs' : List Value} {dv w : Value} {ad : String} {sl : Nat} {ws : List Addr}
theorem Arx.ext (F : Arx Z h a k ty z vs dv ad) (E : Ext h h') : Arx Z h' a k ty z vs dv ad := ⟨F.1.ext E, F.2.ext E⟩
theorem Arx.other (F : Arx Z h a k ty z vs dv ad) (W : Wr h h' x sl w) (q : a ≠ x) : Arx Z h' a k ty z vs dv ad := ⟨F.1.other W q, F.2.wr W⟩
theorem Arx.keep (F : Arx Z h a k ty z vs dv ad) (K : Keep h h' ws) (q : a ∉ ws) : Arx Z h' a k ty z vs dv ad := ⟨F.1.keep K q, F.2.keep K⟩
theorem Arx.lt (F : Arx Z h a k ty z vs dv ad) : a < h.size := F.1.lt
theorem Arx.pad (F : Arx Z h a k ty z vs dv ad) (q : ∀ i, vs'.getD i dv = vs.getD i dv) : Arx Z h a k ty z vs' dv ad := ⟨F.1.pad q, F.2⟩
theorem sto_of {C : String} {y : Addr} (A : Arx Z h a k ty z vs dv ad) (O : Ovr Z k C) (I : Ins Z h y C true) : Sto Z h a (.ref y) := by
  obtain ⟨⟨c, Ar, q, -⟩, -⟩ := A; exact Sto.ofV Ar q O I
theorem sto_ofA {C : String} {y : Addr} {t : FieldType} (A : Arx Z h a k ty z vs dv ad) (O : OvrA Z k t C) (I : Ins Z h y C true) : Sto Z h a (.ref y) := by
  obtain ⟨⟨c, Ar, q, -⟩, -⟩ := A; exact Sto.ofVA Ar q O I
end ArxS
section Walk
variable {p : Program} {l : Launch} {e : Env} {R : Room} {s : State} {m : MethodId} {args : Array Value} {below : List Frame} {meth : Method} {c : Code} {Z : State} {a0 : Array Value} {k n : Nat} {own nm : String} {code : ByteArray} {maxL : Nat} {ret : Option FieldType} {n0 : Nat} {Q : Option Value → Heap → Prop} {h : Heap} {pc pc' pcY pcN : Nat} {Ls : Array Slot} {st rest : List Value}
theorem G.mono {k' n' : Nat} (H : G p l e R s m args below meth c Z.heap.size Q h k n pc Ls st) (hk : k' ≤ k) (hn : n' ≤ n) : G p l e R s m args below meth c Z.heap.size Q h k' n' pc Ls st :=
  fun T locs cells slots X N eT a b => H T locs cells slots X N eT (Nat.le_trans a hk) (Nat.le_trans b hn)
theorem G.cast {st' : List Value} (H : G p l e R s m args below meth c Z.heap.size Q h k n pc Ls st') (q : st = st') : G p l e R s m args below meth c Z.heap.size Q h k n pc Ls st := q ▸ H
theorem G.post {Q' : Option Value → Heap → Prop} (H : G p l e R s m args below meth c Z.heap.size Q h k n pc Ls st) (q : ∀ v h, Q v h → Q' v h) : G p l e R s m args below meth c Z.heap.size Q' h k n pc Ls st :=
  fun T locs cells slots X N eT a b => by
    obtain ⟨s₂, o, h1, h2, h3, v, L, h4, ⟨h5, h6⟩, h7⟩ := H T locs cells slots X N eT a b
    exact ⟨s₂, o, h1, h2, h3, v, L, h4, ⟨q _ _ h5, h6⟩, h7⟩
theorem met_of {y : MethodName} {bytes : ByteArray} {rm : Room} {as : Array Value} {h0 : Heap} (pn : plainFor y = true) (ef : ∀ m, entryFrame m as maxL = mkF m 0 Ls [])
    (body : ∀ p e s m below meth c, Cx Z p s m meth c rm 0 0 y.cls y.name bytes maxL ret → G p l e rm s m as below meth c Z.heap.size Q h0 0 0 0 Ls []) : Met l Z y bytes maxL ret rm as h0 Q := by
  intro ws
  refine MetFree.of_bodySF pn hisR ?_
  intro p e s m args below meth c s₁ Bd hml0 hP hK
  obtain ⟨rfl, hZ, hh⟩ := hP
  have e0 : s₁.heap = h0 := by rw [← hh, Bd.state]; rfl
  have X0 : Stand p l e rm s m args below meth c s₁ [] 0 0 := Stand.of_body Bd
  rw [ef m]
  exact body p e s m below meth c ⟨Bd.exec, hZ, findClass_of_methodNamed Bd.named, Bd.bytes, hml0, Bd.returns, (name_of_methodNamed Bd.named Bd.method).1, BodyLoose.notSynchronized Bd⟩ s₁ [] 0 0 X0 (Fr.nil _) e0 (Nat.le_refl _) (Nat.le_refl _)
theorem g_iloadN {kx nx : Nat} (cx : Cx Z p s m meth c R kx nx own nm code maxL ret) {i : Fin 4} {v : Int32} (d : Dc code pc (.iload_n i) 1 pc') (hl : Ls[i.val]? = some (.val (.int v))) (H : G p l e R s m args below meth c Z.heap.size Q h k n pc' Ls (.int v :: st)) : G p l e R s m args below meth c Z.heap.size Q h k n pc Ls st := by
  obtain ⟨hx, hZ, hown, rfl, hml, hret, hnm, -⟩ := cx
  obtain ⟨d, rfl⟩ := d
  intro T locs cells slots X N eT hk hn
  obtain ⟨s₂, o, st2, r⟩ := H T locs cells slots X N eT hk hn
  exact ⟨s₂, o, Jvm.Free.XS.iloadN X.here hx rfl d hl st2, r⟩
theorem g_iload {kx nx : Nat} (cx : Cx Z p s m meth c R kx nx own nm code maxL ret) {i : Nat} {v : Int32} (d : Dc code pc (.iload i) 2 pc') (hl : Ls[i]? = some (.val (.int v))) (H : G p l e R s m args below meth c Z.heap.size Q h k n pc' Ls (.int v :: st)) : G p l e R s m args below meth c Z.heap.size Q h k n pc Ls st := by
  obtain ⟨hx, hZ, hown, rfl, hml, hret, hnm, -⟩ := cx
  obtain ⟨d, rfl⟩ := d
  intro T locs cells slots X N eT hk hn
  obtain ⟨s₂, o, st2, r⟩ := H T locs cells slots X N eT hk hn
  exact ⟨s₂, o, Jvm.Free.XS.iload X.here hx rfl d hl st2, r⟩
theorem g_istoreN {kx nx : Nat} (cx : Cx Z p s m meth c R kx nx own nm code maxL ret) {i : Fin 4} {v : Int32} {Ls' : Array Slot} (d : Dc code pc (.istore_n i) 1 pc') (hl : storeLocals Ls i.val (.int v) = some Ls') (H : G p l e R s m args below meth c Z.heap.size Q h k n pc' Ls' st) : G p l e R s m args below meth c Z.heap.size Q h k n pc Ls (.int v :: st) := by
  obtain ⟨hx, hZ, hown, rfl, hml, hret, hnm, -⟩ := cx
  obtain ⟨d, rfl⟩ := d
  intro T locs cells slots X N eT hk hn
  obtain ⟨s₂, o, st2, r⟩ := H T locs cells slots X N eT hk hn
  exact ⟨s₂, o, Jvm.Free.XS.istoreN X.here hx rfl d rfl hl st2, r⟩
theorem g_istore {kx nx : Nat} (cx : Cx Z p s m meth c R kx nx own nm code maxL ret) {i : Nat} {v : Int32} {Ls' : Array Slot} (d : Dc code pc (.istore i) 2 pc') (hl : storeLocals Ls i (.int v) = some Ls') (H : G p l e R s m args below meth c Z.heap.size Q h k n pc' Ls' st) : G p l e R s m args below meth c Z.heap.size Q h k n pc Ls (.int v :: st) := by
  obtain ⟨hx, hZ, hown, rfl, hml, hret, hnm, -⟩ := cx
  obtain ⟨d, rfl⟩ := d
  intro T locs cells slots X N eT hk hn
  obtain ⟨s₂, o, st2, r⟩ := H T locs cells slots X N eT hk hn
  exact ⟨s₂, o, Jvm.Free.XS.istore X.here hx rfl d rfl hl st2, r⟩
theorem g_lloadN {kx nx : Nat} (cx : Cx Z p s m meth c R kx nx own nm code maxL ret) {i : Fin 4} {v : Int64} (d : Dc code pc (.lload_n i) 1 pc') (hl : Ls[i.val]? = some (.val (.long v))) (H : G p l e R s m args below meth c Z.heap.size Q h k n pc' Ls (.long v :: st)) : G p l e R s m args below meth c Z.heap.size Q h k n pc Ls st := by
  obtain ⟨hx, hZ, hown, rfl, hml, hret, hnm, -⟩ := cx
  obtain ⟨d, rfl⟩ := d
  intro T locs cells slots X N eT hk hn
  obtain ⟨s₂, o, st2, r⟩ := H T locs cells slots X N eT hk hn
  exact ⟨s₂, o, Jvm.Free.XS.lloadN X.here hx rfl d hl st2, r⟩
theorem g_lload {kx nx : Nat} (cx : Cx Z p s m meth c R kx nx own nm code maxL ret) {i : Nat} {v : Int64} (d : Dc code pc (.lload i) 2 pc') (hl : Ls[i]? = some (.val (.long v))) (H : G p l e R s m args below meth c Z.heap.size Q h k n pc' Ls (.long v :: st)) : G p l e R s m args below meth c Z.heap.size Q h k n pc Ls st := by
  obtain ⟨hx, hZ, hown, rfl, hml, hret, hnm, -⟩ := cx
  obtain ⟨d, rfl⟩ := d
  intro T locs cells slots X N eT hk hn
  obtain ⟨s₂, o, st2, r⟩ := H T locs cells slots X N eT hk hn
  exact ⟨s₂, o, Jvm.Free.XS.lload X.here hx rfl d hl st2, r⟩
theorem g_lstoreN {kx nx : Nat} (cx : Cx Z p s m meth c R kx nx own nm code maxL ret) {i : Fin 4} {v : Int64} {Ls' : Array Slot} (d : Dc code pc (.lstore_n i) 1 pc') (hl : storeLocals Ls i.val (.long v) = some Ls') (H : G p l e R s m args below meth c Z.heap.size Q h k n pc' Ls' st) : G p l e R s m args below meth c Z.heap.size Q h k n pc Ls (.long v :: st) := by
  obtain ⟨hx, hZ, hown, rfl, hml, hret, hnm, -⟩ := cx
  obtain ⟨d, rfl⟩ := d
  intro T locs cells slots X N eT hk hn
  obtain ⟨s₂, o, st2, r⟩ := H T locs cells slots X N eT hk hn
  exact ⟨s₂, o, Jvm.Free.XS.lstoreN X.here hx rfl d rfl hl st2, r⟩
theorem g_lstore {kx nx : Nat} (cx : Cx Z p s m meth c R kx nx own nm code maxL ret) {i : Nat} {v : Int64} {Ls' : Array Slot} (d : Dc code pc (.lstore i) 2 pc') (hl : storeLocals Ls i (.long v) = some Ls') (H : G p l e R s m args below meth c Z.heap.size Q h k n pc' Ls' st) : G p l e R s m args below meth c Z.heap.size Q h k n pc Ls (.long v :: st) := by
  obtain ⟨hx, hZ, hown, rfl, hml, hret, hnm, -⟩ := cx
  obtain ⟨d, rfl⟩ := d
  intro T locs cells slots X N eT hk hn
  obtain ⟨s₂, o, st2, r⟩ := H T locs cells slots X N eT hk hn
  exact ⟨s₂, o, Jvm.Free.XS.lstore X.here hx rfl d rfl hl st2, r⟩
theorem g_aloadN {kx nx : Nat} (cx : Cx Z p s m meth c R kx nx own nm code maxL ret) {i : Fin 4} {v : Value} (d : Dc code pc (.aload_n i) 1 pc') (hl : Ls[i.val]? = some (.val v)) (hv : v.isRef = true) (H : G p l e R s m args below meth c Z.heap.size Q h k n pc' Ls (v :: st)) : G p l e R s m args below meth c Z.heap.size Q h k n pc Ls st := by
  obtain ⟨hx, hZ, hown, rfl, hml, hret, hnm, -⟩ := cx
  obtain ⟨d, rfl⟩ := d
  intro T locs cells slots X N eT hk hn
  obtain ⟨s₂, o, st2, r⟩ := H T locs cells slots X N eT hk hn
  exact ⟨s₂, o, Jvm.Free.XS.aloadN X.here hx rfl d hl hv st2, r⟩
theorem g_aload {kx nx : Nat} (cx : Cx Z p s m meth c R kx nx own nm code maxL ret) {i : Nat} {v : Value} (d : Dc code pc (.aload i) 2 pc') (hl : Ls[i]? = some (.val v)) (hv : v.isRef = true) (H : G p l e R s m args below meth c Z.heap.size Q h k n pc' Ls (v :: st)) : G p l e R s m args below meth c Z.heap.size Q h k n pc Ls st := by
  obtain ⟨hx, hZ, hown, rfl, hml, hret, hnm, -⟩ := cx
  obtain ⟨d, rfl⟩ := d
  intro T locs cells slots X N eT hk hn
  obtain ⟨s₂, o, st2, r⟩ := H T locs cells slots X N eT hk hn
  exact ⟨s₂, o, Jvm.Free.XS.aload X.here hx rfl d hl hv st2, r⟩
theorem g_astoreN {kx nx : Nat} (cx : Cx Z p s m meth c R kx nx own nm code maxL ret) {i : Fin 4} {v : Value} {Ls' : Array Slot} (d : Dc code pc (.astore_n i) 1 pc') (hv : v.isRef = true) (hl : storeLocals Ls i.val v = some Ls') (H : G p l e R s m args below meth c Z.heap.size Q h k n pc' Ls' st) : G p l e R s m args below meth c Z.heap.size Q h k n pc Ls (v :: st) := by
  obtain ⟨hx, hZ, hown, rfl, hml, hret, hnm, -⟩ := cx
  obtain ⟨d, rfl⟩ := d
  intro T locs cells slots X N eT hk hn
  obtain ⟨s₂, o, st2, r⟩ := H T locs cells slots X N eT hk hn
  exact ⟨s₂, o, Jvm.Free.XS.astoreN X.here hx rfl d rfl hv hl st2, r⟩
theorem g_astore {kx nx : Nat} (cx : Cx Z p s m meth c R kx nx own nm code maxL ret) {i : Nat} {v : Value} {Ls' : Array Slot} (d : Dc code pc (.astore i) 2 pc') (hv : v.isRef = true) (hl : storeLocals Ls i v = some Ls') (H : G p l e R s m args below meth c Z.heap.size Q h k n pc' Ls' st) : G p l e R s m args below meth c Z.heap.size Q h k n pc Ls (v :: st) := by
  obtain ⟨hx, hZ, hown, rfl, hml, hret, hnm, -⟩ := cx
  obtain ⟨d, rfl⟩ := d
  intro T locs cells slots X N eT hk hn
  obtain ⟨s₂, o, st2, r⟩ := H T locs cells slots X N eT hk hn
  exact ⟨s₂, o, Jvm.Free.XS.astore X.here hx rfl d rfl hv hl st2, r⟩
theorem g_iconst {kx nx : Nat} (cx : Cx Z p s m meth c R kx nx own nm code maxL ret) {i : Int} {v : Int32} (d : Dc code pc (.iconst i) 1 pc') (hv : Int32.ofInt i = v) (H : G p l e R s m args below meth c Z.heap.size Q h k n pc' Ls (.int v :: st)) : G p l e R s m args below meth c Z.heap.size Q h k n pc Ls st := by
  obtain ⟨hx, hZ, hown, rfl, hml, hret, hnm, -⟩ := cx
  obtain ⟨d, rfl⟩ := d
  intro T locs cells slots X N eT hk hn
  obtain ⟨s₂, o, st2, r⟩ := H T locs cells slots X N eT hk hn
  exact ⟨s₂, o, Jvm.Free.XS.iconst X.here hx rfl d (by rw [hv]; exact st2), r⟩
theorem g_bipush {kx nx : Nat} (cx : Cx Z p s m meth c R kx nx own nm code maxL ret) {i : Int} {v : Int32} (d : Dc code pc (.bipush i) 2 pc') (hv : (Int8.ofInt i).toInt32 = v) (H : G p l e R s m args below meth c Z.heap.size Q h k n pc' Ls (.int v :: st)) : G p l e R s m args below meth c Z.heap.size Q h k n pc Ls st := by
  obtain ⟨hx, hZ, hown, rfl, hml, hret, hnm, -⟩ := cx
  obtain ⟨d, rfl⟩ := d
  intro T locs cells slots X N eT hk hn
  obtain ⟨s₂, o, st2, r⟩ := H T locs cells slots X N eT hk hn
  exact ⟨s₂, o, Jvm.Free.XS.bipush X.here hx rfl d (by rw [hv]; exact st2), r⟩
theorem g_sipush {kx nx : Nat} (cx : Cx Z p s m meth c R kx nx own nm code maxL ret) {i : Int} {v : Int32} (d : Dc code pc (.sipush i) 3 pc') (hv : (Int16.ofInt i).toInt32 = v) (H : G p l e R s m args below meth c Z.heap.size Q h k n pc' Ls (.int v :: st)) : G p l e R s m args below meth c Z.heap.size Q h k n pc Ls st := by
  obtain ⟨hx, hZ, hown, rfl, hml, hret, hnm, -⟩ := cx
  obtain ⟨d, rfl⟩ := d
  intro T locs cells slots X N eT hk hn
  obtain ⟨s₂, o, st2, r⟩ := H T locs cells slots X N eT hk hn
  exact ⟨s₂, o, Jvm.Free.XS.sipush X.here hx rfl d (by rw [hv]; exact st2), r⟩
theorem g_lconst {kx nx : Nat} (cx : Cx Z p s m meth c R kx nx own nm code maxL ret) {i : Fin 2} {v : Int64} (d : Dc code pc (.lconst i) 1 pc') (hv : Int64.ofNat i = v) (H : G p l e R s m args below meth c Z.heap.size Q h k n pc' Ls (.long v :: st)) : G p l e R s m args below meth c Z.heap.size Q h k n pc Ls st := by
  obtain ⟨hx, hZ, hown, rfl, hml, hret, hnm, -⟩ := cx
  obtain ⟨d, rfl⟩ := d
  intro T locs cells slots X N eT hk hn
  obtain ⟨s₂, o, st2, r⟩ := H T locs cells slots X N eT hk hn
  exact ⟨s₂, o, Jvm.Free.XS.lconst X.here hx rfl d (by rw [hv]; exact st2), r⟩
theorem g_aconst_null {kx nx : Nat} (cx : Cx Z p s m meth c R kx nx own nm code maxL ret)  (d : Dc code pc .aconst_null 1 pc') (H : G p l e R s m args below meth c Z.heap.size Q h k n pc' Ls (.null :: st)) : G p l e R s m args below meth c Z.heap.size Q h k n pc Ls st := by
  obtain ⟨hx, hZ, hown, rfl, hml, hret, hnm, -⟩ := cx
  obtain ⟨d, rfl⟩ := d
  intro T locs cells slots X N eT hk hn
  obtain ⟨s₂, o, st2, r⟩ := H T locs cells slots X N eT hk hn
  exact ⟨s₂, o, Jvm.Free.XS.aconstNull X.here hx rfl d  st2, r⟩
theorem g_iadd {kx nx : Nat} (cx : Cx Z p s m meth c R kx nx own nm code maxL ret) {x y : Int32} (d : Dc code pc .iadd 1 pc') (H : G p l e R s m args below meth c Z.heap.size Q h k n pc' Ls (.int (x + y) :: st)) : G p l e R s m args below meth c Z.heap.size Q h k n pc Ls (.int y :: .int x :: st) := by
  obtain ⟨hx, hZ, hown, rfl, hml, hret, hnm, -⟩ := cx
  obtain ⟨d, rfl⟩ := d
  intro T locs cells slots X N eT hk hn
  obtain ⟨s₂, o, st2, r⟩ := H T locs cells slots X N eT hk hn
  exact ⟨s₂, o, Jvm.Free.XS.iadd X.here hx rfl d rfl st2, r⟩
theorem g_ladd {kx nx : Nat} (cx : Cx Z p s m meth c R kx nx own nm code maxL ret) {x y : Int64} (d : Dc code pc .ladd 1 pc') (H : G p l e R s m args below meth c Z.heap.size Q h k n pc' Ls (.long (x + y) :: st)) : G p l e R s m args below meth c Z.heap.size Q h k n pc Ls (.long y :: .long x :: st) := by
  obtain ⟨hx, hZ, hown, rfl, hml, hret, hnm, -⟩ := cx
  obtain ⟨d, rfl⟩ := d
  intro T locs cells slots X N eT hk hn
  obtain ⟨s₂, o, st2, r⟩ := H T locs cells slots X N eT hk hn
  exact ⟨s₂, o, Jvm.Free.XS.ladd X.here hx rfl d rfl st2, r⟩
theorem g_isub {kx nx : Nat} (cx : Cx Z p s m meth c R kx nx own nm code maxL ret) {x y : Int32} (d : Dc code pc .isub 1 pc') (H : G p l e R s m args below meth c Z.heap.size Q h k n pc' Ls (.int (x - y) :: st)) : G p l e R s m args below meth c Z.heap.size Q h k n pc Ls (.int y :: .int x :: st) := by
  obtain ⟨hx, hZ, hown, rfl, hml, hret, hnm, -⟩ := cx
  obtain ⟨d, rfl⟩ := d
  intro T locs cells slots X N eT hk hn
  obtain ⟨s₂, o, st2, r⟩ := H T locs cells slots X N eT hk hn
  exact ⟨s₂, o, Jvm.Free.XS.isub X.here hx rfl d rfl st2, r⟩
theorem g_lsub {kx nx : Nat} (cx : Cx Z p s m meth c R kx nx own nm code maxL ret) {x y : Int64} (d : Dc code pc .lsub 1 pc') (H : G p l e R s m args below meth c Z.heap.size Q h k n pc' Ls (.long (x - y) :: st)) : G p l e R s m args below meth c Z.heap.size Q h k n pc Ls (.long y :: .long x :: st) := by
  obtain ⟨hx, hZ, hown, rfl, hml, hret, hnm, -⟩ := cx
  obtain ⟨d, rfl⟩ := d
  intro T locs cells slots X N eT hk hn
  obtain ⟨s₂, o, st2, r⟩ := H T locs cells slots X N eT hk hn
  exact ⟨s₂, o, Jvm.Free.XS.lsub X.here hx rfl d rfl st2, r⟩
theorem g_imul {kx nx : Nat} (cx : Cx Z p s m meth c R kx nx own nm code maxL ret) {x y : Int32} (d : Dc code pc .imul 1 pc') (H : G p l e R s m args below meth c Z.heap.size Q h k n pc' Ls (.int (x * y) :: st)) : G p l e R s m args below meth c Z.heap.size Q h k n pc Ls (.int y :: .int x :: st) := by
  obtain ⟨hx, hZ, hown, rfl, hml, hret, hnm, -⟩ := cx
  obtain ⟨d, rfl⟩ := d
  intro T locs cells slots X N eT hk hn
  obtain ⟨s₂, o, st2, r⟩ := H T locs cells slots X N eT hk hn
  exact ⟨s₂, o, Jvm.Free.XS.imul X.here hx rfl d rfl st2, r⟩
theorem g_lmul {kx nx : Nat} (cx : Cx Z p s m meth c R kx nx own nm code maxL ret) {x y : Int64} (d : Dc code pc .lmul 1 pc') (H : G p l e R s m args below meth c Z.heap.size Q h k n pc' Ls (.long (x * y) :: st)) : G p l e R s m args below meth c Z.heap.size Q h k n pc Ls (.long y :: .long x :: st) := by
  obtain ⟨hx, hZ, hown, rfl, hml, hret, hnm, -⟩ := cx
  obtain ⟨d, rfl⟩ := d
  intro T locs cells slots X N eT hk hn
  obtain ⟨s₂, o, st2, r⟩ := H T locs cells slots X N eT hk hn
  exact ⟨s₂, o, Jvm.Free.XS.lmul X.here hx rfl d rfl st2, r⟩
theorem g_iand {kx nx : Nat} (cx : Cx Z p s m meth c R kx nx own nm code maxL ret) {x y : Int32} (d : Dc code pc .iand 1 pc') (H : G p l e R s m args below meth c Z.heap.size Q h k n pc' Ls (.int (x &&& y) :: st)) : G p l e R s m args below meth c Z.heap.size Q h k n pc Ls (.int y :: .int x :: st) := by
  obtain ⟨hx, hZ, hown, rfl, hml, hret, hnm, -⟩ := cx
  obtain ⟨d, rfl⟩ := d
  intro T locs cells slots X N eT hk hn
  obtain ⟨s₂, o, st2, r⟩ := H T locs cells slots X N eT hk hn
  exact ⟨s₂, o, Jvm.Free.XS.iand X.here hx rfl d rfl st2, r⟩
theorem g_land {kx nx : Nat} (cx : Cx Z p s m meth c R kx nx own nm code maxL ret) {x y : Int64} (d : Dc code pc .land 1 pc') (H : G p l e R s m args below meth c Z.heap.size Q h k n pc' Ls (.long (x &&& y) :: st)) : G p l e R s m args below meth c Z.heap.size Q h k n pc Ls (.long y :: .long x :: st) := by
  obtain ⟨hx, hZ, hown, rfl, hml, hret, hnm, -⟩ := cx
  obtain ⟨d, rfl⟩ := d
  intro T locs cells slots X N eT hk hn
  obtain ⟨s₂, o, st2, r⟩ := H T locs cells slots X N eT hk hn
  exact ⟨s₂, o, Jvm.Free.XS.land X.here hx rfl d rfl st2, r⟩
theorem g_ior {kx nx : Nat} (cx : Cx Z p s m meth c R kx nx own nm code maxL ret) {x y : Int32} (d : Dc code pc .ior 1 pc') (H : G p l e R s m args below meth c Z.heap.size Q h k n pc' Ls (.int (x ||| y) :: st)) : G p l e R s m args below meth c Z.heap.size Q h k n pc Ls (.int y :: .int x :: st) := by
  obtain ⟨hx, hZ, hown, rfl, hml, hret, hnm, -⟩ := cx
  obtain ⟨d, rfl⟩ := d
  intro T locs cells slots X N eT hk hn
  obtain ⟨s₂, o, st2, r⟩ := H T locs cells slots X N eT hk hn
  exact ⟨s₂, o, Jvm.Free.XS.ior X.here hx rfl d rfl st2, r⟩
theorem g_lor {kx nx : Nat} (cx : Cx Z p s m meth c R kx nx own nm code maxL ret) {x y : Int64} (d : Dc code pc .lor 1 pc') (H : G p l e R s m args below meth c Z.heap.size Q h k n pc' Ls (.long (x ||| y) :: st)) : G p l e R s m args below meth c Z.heap.size Q h k n pc Ls (.long y :: .long x :: st) := by
  obtain ⟨hx, hZ, hown, rfl, hml, hret, hnm, -⟩ := cx
  obtain ⟨d, rfl⟩ := d
  intro T locs cells slots X N eT hk hn
  obtain ⟨s₂, o, st2, r⟩ := H T locs cells slots X N eT hk hn
  exact ⟨s₂, o, Jvm.Free.XS.lor X.here hx rfl d rfl st2, r⟩
theorem g_ixor {kx nx : Nat} (cx : Cx Z p s m meth c R kx nx own nm code maxL ret) {x y : Int32} (d : Dc code pc .ixor 1 pc') (H : G p l e R s m args below meth c Z.heap.size Q h k n pc' Ls (.int (x ^^^ y) :: st)) : G p l e R s m args below meth c Z.heap.size Q h k n pc Ls (.int y :: .int x :: st) := by
  obtain ⟨hx, hZ, hown, rfl, hml, hret, hnm, -⟩ := cx
  obtain ⟨d, rfl⟩ := d
  intro T locs cells slots X N eT hk hn
  obtain ⟨s₂, o, st2, r⟩ := H T locs cells slots X N eT hk hn
  exact ⟨s₂, o, Jvm.Free.XS.ixor X.here hx rfl d rfl st2, r⟩
theorem g_lxor {kx nx : Nat} (cx : Cx Z p s m meth c R kx nx own nm code maxL ret) {x y : Int64} (d : Dc code pc .lxor 1 pc') (H : G p l e R s m args below meth c Z.heap.size Q h k n pc' Ls (.long (x ^^^ y) :: st)) : G p l e R s m args below meth c Z.heap.size Q h k n pc Ls (.long y :: .long x :: st) := by
  obtain ⟨hx, hZ, hown, rfl, hml, hret, hnm, -⟩ := cx
  obtain ⟨d, rfl⟩ := d
  intro T locs cells slots X N eT hk hn
  obtain ⟨s₂, o, st2, r⟩ := H T locs cells slots X N eT hk hn
  exact ⟨s₂, o, Jvm.Free.XS.lxor X.here hx rfl d rfl st2, r⟩
theorem g_ishl {kx nx : Nat} (cx : Cx Z p s m meth c R kx nx own nm code maxL ret) {x : Int32} {y : Int32} (d : Dc code pc .ishl 1 pc') (H : G p l e R s m args below meth c Z.heap.size Q h k n pc' Ls (.int (x <<< (y &&& 31)) :: st)) : G p l e R s m args below meth c Z.heap.size Q h k n pc Ls (.int y :: .int x :: st) := by
  obtain ⟨hx, hZ, hown, rfl, hml, hret, hnm, -⟩ := cx
  obtain ⟨d, rfl⟩ := d
  intro T locs cells slots X N eT hk hn
  obtain ⟨s₂, o, st2, r⟩ := H T locs cells slots X N eT hk hn
  exact ⟨s₂, o, Jvm.Free.XS.ishl X.here hx rfl d rfl st2, r⟩
theorem g_ishr {kx nx : Nat} (cx : Cx Z p s m meth c R kx nx own nm code maxL ret) {x : Int32} {y : Int32} (d : Dc code pc .ishr 1 pc') (H : G p l e R s m args below meth c Z.heap.size Q h k n pc' Ls (.int (x >>> (y &&& 31)) :: st)) : G p l e R s m args below meth c Z.heap.size Q h k n pc Ls (.int y :: .int x :: st) := by
  obtain ⟨hx, hZ, hown, rfl, hml, hret, hnm, -⟩ := cx
  obtain ⟨d, rfl⟩ := d
  intro T locs cells slots X N eT hk hn
  obtain ⟨s₂, o, st2, r⟩ := H T locs cells slots X N eT hk hn
  exact ⟨s₂, o, Jvm.Free.XS.ishr X.here hx rfl d rfl st2, r⟩
theorem g_iushr {kx nx : Nat} (cx : Cx Z p s m meth c R kx nx own nm code maxL ret) {x : Int32} {y : Int32} (d : Dc code pc .iushr 1 pc') (H : G p l e R s m args below meth c Z.heap.size Q h k n pc' Ls (.int ((x.toUInt32 >>> (y &&& 31).toUInt32).toInt32) :: st)) : G p l e R s m args below meth c Z.heap.size Q h k n pc Ls (.int y :: .int x :: st) := by
  obtain ⟨hx, hZ, hown, rfl, hml, hret, hnm, -⟩ := cx
  obtain ⟨d, rfl⟩ := d
  intro T locs cells slots X N eT hk hn
  obtain ⟨s₂, o, st2, r⟩ := H T locs cells slots X N eT hk hn
  exact ⟨s₂, o, Jvm.Free.XS.iushr X.here hx rfl d rfl st2, r⟩
theorem g_lshl {kx nx : Nat} (cx : Cx Z p s m meth c R kx nx own nm code maxL ret) {x : Int64} {y : Int32} (d : Dc code pc .lshl 1 pc') (H : G p l e R s m args below meth c Z.heap.size Q h k n pc' Ls (.long (x <<< (y &&& 0x3f).toInt64) :: st)) : G p l e R s m args below meth c Z.heap.size Q h k n pc Ls (.int y :: .long x :: st) := by
  obtain ⟨hx, hZ, hown, rfl, hml, hret, hnm, -⟩ := cx
  obtain ⟨d, rfl⟩ := d
  intro T locs cells slots X N eT hk hn
  obtain ⟨s₂, o, st2, r⟩ := H T locs cells slots X N eT hk hn
  exact ⟨s₂, o, Jvm.Free.XS.lshl X.here hx rfl d rfl st2, r⟩
theorem g_lshr {kx nx : Nat} (cx : Cx Z p s m meth c R kx nx own nm code maxL ret) {x : Int64} {y : Int32} (d : Dc code pc .lshr 1 pc') (H : G p l e R s m args below meth c Z.heap.size Q h k n pc' Ls (.long (x >>> (y &&& 0x3f).toInt64) :: st)) : G p l e R s m args below meth c Z.heap.size Q h k n pc Ls (.int y :: .long x :: st) := by
  obtain ⟨hx, hZ, hown, rfl, hml, hret, hnm, -⟩ := cx
  obtain ⟨d, rfl⟩ := d
  intro T locs cells slots X N eT hk hn
  obtain ⟨s₂, o, st2, r⟩ := H T locs cells slots X N eT hk hn
  exact ⟨s₂, o, Jvm.Free.XS.lshr X.here hx rfl d rfl st2, r⟩
theorem g_lushr {kx nx : Nat} (cx : Cx Z p s m meth c R kx nx own nm code maxL ret) {x : Int64} {y : Int32} (d : Dc code pc .lushr 1 pc') (H : G p l e R s m args below meth c Z.heap.size Q h k n pc' Ls (.long ((x.toUInt64 >>> (y &&& 0x3f).toInt64.toUInt64).toInt64) :: st)) : G p l e R s m args below meth c Z.heap.size Q h k n pc Ls (.int y :: .long x :: st) := by
  obtain ⟨hx, hZ, hown, rfl, hml, hret, hnm, -⟩ := cx
  obtain ⟨d, rfl⟩ := d
  intro T locs cells slots X N eT hk hn
  obtain ⟨s₂, o, st2, r⟩ := H T locs cells slots X N eT hk hn
  exact ⟨s₂, o, Jvm.Free.XS.lushr X.here hx rfl d rfl st2, r⟩
theorem g_ineg {kx nx : Nat} (cx : Cx Z p s m meth c R kx nx own nm code maxL ret) {x : Int32} (d : Dc code pc .ineg 1 pc') (H : G p l e R s m args below meth c Z.heap.size Q h k n pc' Ls (.int (-x) :: st)) : G p l e R s m args below meth c Z.heap.size Q h k n pc Ls (.int x :: st) := by
  obtain ⟨hx, hZ, hown, rfl, hml, hret, hnm, -⟩ := cx
  obtain ⟨d, rfl⟩ := d
  intro T locs cells slots X N eT hk hn
  obtain ⟨s₂, o, st2, r⟩ := H T locs cells slots X N eT hk hn
  exact ⟨s₂, o, Jvm.Free.XS.ineg X.here hx rfl d rfl st2, r⟩
theorem g_lneg {kx nx : Nat} (cx : Cx Z p s m meth c R kx nx own nm code maxL ret) {x : Int64} (d : Dc code pc .lneg 1 pc') (H : G p l e R s m args below meth c Z.heap.size Q h k n pc' Ls (.long (-x) :: st)) : G p l e R s m args below meth c Z.heap.size Q h k n pc Ls (.long x :: st) := by
  obtain ⟨hx, hZ, hown, rfl, hml, hret, hnm, -⟩ := cx
  obtain ⟨d, rfl⟩ := d
  intro T locs cells slots X N eT hk hn
  obtain ⟨s₂, o, st2, r⟩ := H T locs cells slots X N eT hk hn
  exact ⟨s₂, o, Jvm.Free.XS.lneg X.here hx rfl d rfl st2, r⟩
theorem g_i2l {kx nx : Nat} (cx : Cx Z p s m meth c R kx nx own nm code maxL ret) {x : Int32} (d : Dc code pc .i2l 1 pc') (H : G p l e R s m args below meth c Z.heap.size Q h k n pc' Ls (.long (x.toInt64) :: st)) : G p l e R s m args below meth c Z.heap.size Q h k n pc Ls (.int x :: st) := by
  obtain ⟨hx, hZ, hown, rfl, hml, hret, hnm, -⟩ := cx
  obtain ⟨d, rfl⟩ := d
  intro T locs cells slots X N eT hk hn
  obtain ⟨s₂, o, st2, r⟩ := H T locs cells slots X N eT hk hn
  exact ⟨s₂, o, Jvm.Free.XS.i2l X.here hx rfl d rfl st2, r⟩
theorem g_l2i {kx nx : Nat} (cx : Cx Z p s m meth c R kx nx own nm code maxL ret) {x : Int64} (d : Dc code pc .l2i 1 pc') (H : G p l e R s m args below meth c Z.heap.size Q h k n pc' Ls (.int (x.toInt32) :: st)) : G p l e R s m args below meth c Z.heap.size Q h k n pc Ls (.long x :: st) := by
  obtain ⟨hx, hZ, hown, rfl, hml, hret, hnm, -⟩ := cx
  obtain ⟨d, rfl⟩ := d
  intro T locs cells slots X N eT hk hn
  obtain ⟨s₂, o, st2, r⟩ := H T locs cells slots X N eT hk hn
  exact ⟨s₂, o, Jvm.Free.XS.l2i X.here hx rfl d rfl st2, r⟩
theorem g_i2b {kx nx : Nat} (cx : Cx Z p s m meth c R kx nx own nm code maxL ret) {x : Int32} (d : Dc code pc .i2b 1 pc') (H : G p l e R s m args below meth c Z.heap.size Q h k n pc' Ls (.int (x.toInt8.toInt32) :: st)) : G p l e R s m args below meth c Z.heap.size Q h k n pc Ls (.int x :: st) := by
  obtain ⟨hx, hZ, hown, rfl, hml, hret, hnm, -⟩ := cx
  obtain ⟨d, rfl⟩ := d
  intro T locs cells slots X N eT hk hn
  obtain ⟨s₂, o, st2, r⟩ := H T locs cells slots X N eT hk hn
  exact ⟨s₂, o, Jvm.Free.XS.i2b X.here hx rfl d rfl st2, r⟩
theorem g_i2s {kx nx : Nat} (cx : Cx Z p s m meth c R kx nx own nm code maxL ret) {x : Int32} (d : Dc code pc .i2s 1 pc') (H : G p l e R s m args below meth c Z.heap.size Q h k n pc' Ls (.int (x.toInt16.toInt32) :: st)) : G p l e R s m args below meth c Z.heap.size Q h k n pc Ls (.int x :: st) := by
  obtain ⟨hx, hZ, hown, rfl, hml, hret, hnm, -⟩ := cx
  obtain ⟨d, rfl⟩ := d
  intro T locs cells slots X N eT hk hn
  obtain ⟨s₂, o, st2, r⟩ := H T locs cells slots X N eT hk hn
  exact ⟨s₂, o, Jvm.Free.XS.i2s X.here hx rfl d rfl st2, r⟩
theorem g_i2c {kx nx : Nat} (cx : Cx Z p s m meth c R kx nx own nm code maxL ret) {x : Int32} (d : Dc code pc .i2c 1 pc') (H : G p l e R s m args below meth c Z.heap.size Q h k n pc' Ls (.int (x.toUInt32.toUInt16.toUInt32.toInt32) :: st)) : G p l e R s m args below meth c Z.heap.size Q h k n pc Ls (.int x :: st) := by
  obtain ⟨hx, hZ, hown, rfl, hml, hret, hnm, -⟩ := cx
  obtain ⟨d, rfl⟩ := d
  intro T locs cells slots X N eT hk hn
  obtain ⟨s₂, o, st2, r⟩ := H T locs cells slots X N eT hk hn
  exact ⟨s₂, o, Jvm.Free.XS.i2c X.here hx rfl d rfl st2, r⟩
theorem g_idiv {kx nx : Nat} (cx : Cx Z p s m meth c R kx nx own nm code maxL ret) {x y : Int32} (d : Dc code pc .idiv 1 pc') (hy : y ≠ 0) (H : G p l e R s m args below meth c Z.heap.size Q h k n pc' Ls (.int (x / y) :: st)) : G p l e R s m args below meth c Z.heap.size Q h k n pc Ls (.int y :: .int x :: st) := by
  obtain ⟨hx, hZ, hown, rfl, hml, hret, hnm, -⟩ := cx
  obtain ⟨d, rfl⟩ := d
  intro T locs cells slots X N eT hk hn
  obtain ⟨s₂, o, st2, r⟩ := H T locs cells slots X N eT hk hn
  exact ⟨s₂, o, Jvm.Free.XS.idiv X.here hx rfl d rfl hy st2, r⟩
theorem g_ldiv {kx nx : Nat} (cx : Cx Z p s m meth c R kx nx own nm code maxL ret) {x y : Int64} (d : Dc code pc .ldiv 1 pc') (hy : y ≠ 0) (H : G p l e R s m args below meth c Z.heap.size Q h k n pc' Ls (.long (x / y) :: st)) : G p l e R s m args below meth c Z.heap.size Q h k n pc Ls (.long y :: .long x :: st) := by
  obtain ⟨hx, hZ, hown, rfl, hml, hret, hnm, -⟩ := cx
  obtain ⟨d, rfl⟩ := d
  intro T locs cells slots X N eT hk hn
  obtain ⟨s₂, o, st2, r⟩ := H T locs cells slots X N eT hk hn
  exact ⟨s₂, o, Jvm.Free.XS.ldiv X.here hx rfl d rfl hy st2, r⟩
theorem g_irem {kx nx : Nat} (cx : Cx Z p s m meth c R kx nx own nm code maxL ret) {x y : Int32} (d : Dc code pc .irem 1 pc') (hy : y ≠ 0) (H : G p l e R s m args below meth c Z.heap.size Q h k n pc' Ls (.int (x % y) :: st)) : G p l e R s m args below meth c Z.heap.size Q h k n pc Ls (.int y :: .int x :: st) := by
  obtain ⟨hx, hZ, hown, rfl, hml, hret, hnm, -⟩ := cx
  obtain ⟨d, rfl⟩ := d
  intro T locs cells slots X N eT hk hn
  obtain ⟨s₂, o, st2, r⟩ := H T locs cells slots X N eT hk hn
  exact ⟨s₂, o, Jvm.Free.XS.irem X.here hx rfl d rfl hy (by rw [irem_eq_mod]; exact st2), r⟩
theorem g_lrem {kx nx : Nat} (cx : Cx Z p s m meth c R kx nx own nm code maxL ret) {x y : Int64} (d : Dc code pc .lrem 1 pc') (hy : y ≠ 0) (H : G p l e R s m args below meth c Z.heap.size Q h k n pc' Ls (.long (x % y) :: st)) : G p l e R s m args below meth c Z.heap.size Q h k n pc Ls (.long y :: .long x :: st) := by
  obtain ⟨hx, hZ, hown, rfl, hml, hret, hnm, -⟩ := cx
  obtain ⟨d, rfl⟩ := d
  intro T locs cells slots X N eT hk hn
  obtain ⟨s₂, o, st2, r⟩ := H T locs cells slots X N eT hk hn
  exact ⟨s₂, o, Jvm.Free.XS.lrem X.here hx rfl d rfl hy (by rw [lrem_mod]; exact st2), r⟩
theorem g_iinc {kx nx : Nat} (cx : Cx Z p s m meth c R kx nx own nm code maxL ret) {i : Nat} {z : Int} {x v : Int32} {Ls' : Array Slot} (d : Dc code pc (.iinc i z) 3 pc') (hl : Ls[i]? = some (.val (.int x))) (hv : Int32.ofInt z = v) (hl' : storeLocals Ls i (.int (x + v)) = some Ls') (H : G p l e R s m args below meth c Z.heap.size Q h k n pc' Ls' st) : G p l e R s m args below meth c Z.heap.size Q h k n pc Ls st := by
  obtain ⟨hx, hZ, hown, rfl, hml, hret, hnm, -⟩ := cx
  obtain ⟨d, rfl⟩ := d
  intro T locs cells slots X N eT hk hn
  obtain ⟨s₂, o, st2, r⟩ := H T locs cells slots X N eT hk hn
  exact ⟨s₂, o, Jvm.Free.XS.iinc X.here hx rfl d hl (by rw [hv]; exact hl') st2, r⟩
theorem g_dup {kx nx : Nat} (cx : Cx Z p s m meth c R kx nx own nm code maxL ret) {v : Value} (d : Dc code pc .dup 1 pc') (hc : v.category = 1) (H : G p l e R s m args below meth c Z.heap.size Q h k n pc' Ls (v :: v :: st)) : G p l e R s m args below meth c Z.heap.size Q h k n pc Ls (v :: st) := by
  obtain ⟨hx, hZ, hown, rfl, hml, hret, hnm, -⟩ := cx
  obtain ⟨d, rfl⟩ := d
  intro T locs cells slots X N eT hk hn
  obtain ⟨s₂, o, st2, r⟩ := H T locs cells slots X N eT hk hn
  exact ⟨s₂, o, Jvm.Free.XS.dup X.here hx rfl d rfl hc st2, r⟩
theorem g_pop {kx nx : Nat} (cx : Cx Z p s m meth c R kx nx own nm code maxL ret) {v : Value} (d : Dc code pc .pop 1 pc') (hc : v.category = 1) (H : G p l e R s m args below meth c Z.heap.size Q h k n pc' Ls st) : G p l e R s m args below meth c Z.heap.size Q h k n pc Ls (v :: st) := by
  obtain ⟨hx, hZ, hown, rfl, hml, hret, hnm, -⟩ := cx
  obtain ⟨d, rfl⟩ := d
  intro T locs cells slots X N eT hk hn
  obtain ⟨s₂, o, st2, r⟩ := H T locs cells slots X N eT hk hn
  exact ⟨s₂, o, Jvm.Free.XS.pop X.here hx rfl d rfl hc st2, r⟩
theorem g_dup_x1 {kx nx : Nat} (cx : Cx Z p s m meth c R kx nx own nm code maxL ret) {v w : Value} (d : Dc code pc .dup_x1 1 pc') (hc : v.category = 1) (hc2 : w.category = 1) (H : G p l e R s m args below meth c Z.heap.size Q h k n pc' Ls (v :: w :: v :: st)) : G p l e R s m args below meth c Z.heap.size Q h k n pc Ls (v :: w :: st) := by
  obtain ⟨hx, hZ, hown, rfl, hml, hret, hnm, -⟩ := cx
  obtain ⟨d, rfl⟩ := d
  intro T locs cells slots X N eT hk hn
  obtain ⟨s₂, o, st2, r⟩ := H T locs cells slots X N eT hk hn
  exact ⟨s₂, o, Jvm.Free.XS.dupX1 X.here hx rfl d rfl hc hc2 st2, r⟩
theorem g_dup2 {kx nx : Nat} (cx : Cx Z p s m meth c R kx nx own nm code maxL ret) {v w : Value} (d : Dc code pc .dup2 1 pc') (hc : v.category = 1) (hc2 : w.category = 1) (H : G p l e R s m args below meth c Z.heap.size Q h k n pc' Ls (v :: w :: v :: w :: st)) : G p l e R s m args below meth c Z.heap.size Q h k n pc Ls (v :: w :: st) := by
  obtain ⟨hx, hZ, hown, rfl, hml, hret, hnm, -⟩ := cx
  obtain ⟨d, rfl⟩ := d
  intro T locs cells slots X N eT hk hn
  obtain ⟨s₂, o, st2, r⟩ := H T locs cells slots X N eT hk hn
  exact ⟨s₂, o, Jvm.Free.XT.dup2 X.here hx rfl d rfl hc hc2 st2, r⟩
theorem g_dup2L {kx nx : Nat} (cx : Cx Z p s m meth c R kx nx own nm code maxL ret) {v : Int64} (d : Dc code pc .dup2 1 pc') (H : G p l e R s m args below meth c Z.heap.size Q h k n pc' Ls (.long v :: .long v :: st)) : G p l e R s m args below meth c Z.heap.size Q h k n pc Ls (.long v :: st) := by
  obtain ⟨hx, hZ, hown, rfl, hml, hret, hnm, -⟩ := cx
  obtain ⟨d, rfl⟩ := d
  intro T locs cells slots X N eT hk hn
  obtain ⟨s₂, o, st2, r⟩ := H T locs cells slots X N eT hk hn
  exact ⟨s₂, o, Jvm.Free.XT.dup2L X.here hx rfl d rfl st2, r⟩
theorem g_goto {kx nx : Nat} (cx : Cx Z p s m meth c R kx nx own nm code maxL ret) (d : Bi code pc Instr.goto pcY pcN) (H : G p l e R s m args below meth c Z.heap.size Q h k n pcY Ls st) : G p l e R s m args below meth c Z.heap.size Q h k n pc Ls st := by
  obtain ⟨hx, hZ, hown, rfl, hml, hret, hnm, -⟩ := cx
  obtain ⟨o', d, ho, rfl, rfl⟩ := d
  intro T locs cells slots X N eT hk hn
  obtain ⟨s₂, o, st2, r⟩ := H T locs cells slots X N eT hk hn
  exact ⟨s₂, o, Jvm.Free.XS.goto X.here hx rfl (pc0 := pc) rfl d ho rfl st2, r⟩
theorem g_ifB {kx nx : Nat} (cx : Cx Z p s m meth c R kx nx own nm code maxL ret) {cd : ClassFile.Cond} {x : Int32} (d : Bi code pc (Instr.ifCond cd) pcY pcN) (HY : if_icmp.holds cd x 0 = true → G p l e R s m args below meth c Z.heap.size Q h k n pcY Ls st) (HN : if_icmp.holds cd x 0 = false → G p l e R s m args below meth c Z.heap.size Q h k n pcN Ls st) : G p l e R s m args below meth c Z.heap.size Q h k n pc Ls (.int x :: st) := by
  obtain ⟨hx, hZ, hown, rfl, hml, hret, hnm, -⟩ := cx
  obtain ⟨o', d, ho, rfl, rfl⟩ := d
  intro T locs cells slots X N eT hk hn
  cases hc : if_icmp.holds cd x 0
  · obtain ⟨s₂, o, st2, r⟩ := HN hc T locs cells slots X N eT hk hn
    exact ⟨s₂, o, Jvm.Free.XS.ifNo X.here hx rfl d rfl ((if0 _ _).trans hc) st2, r⟩
  · obtain ⟨s₂, o, st2, r⟩ := HY hc T locs cells slots X N eT hk hn
    exact ⟨s₂, o, Jvm.Free.XS.ifYes X.here hx rfl (pc0 := pc) rfl d rfl ((if0 _ _).trans hc) ho rfl st2, r⟩
theorem g_icmpB {kx nx : Nat} (cx : Cx Z p s m meth c R kx nx own nm code maxL ret) {cd : ClassFile.Cond} {x y : Int32} (d : Bi code pc (Instr.if_icmp cd) pcY pcN) (HY : if_icmp.holds cd x y = true → G p l e R s m args below meth c Z.heap.size Q h k n pcY Ls st) (HN : if_icmp.holds cd x y = false → G p l e R s m args below meth c Z.heap.size Q h k n pcN Ls st) : G p l e R s m args below meth c Z.heap.size Q h k n pc Ls (.int y :: .int x :: st) := by
  obtain ⟨hx, hZ, hown, rfl, hml, hret, hnm, -⟩ := cx
  obtain ⟨o', d, ho, rfl, rfl⟩ := d
  intro T locs cells slots X N eT hk hn
  cases hc : if_icmp.holds cd x y
  · obtain ⟨s₂, o, st2, r⟩ := HN hc T locs cells slots X N eT hk hn
    exact ⟨s₂, o, Jvm.Free.XS.icmpNo X.here hx rfl d rfl hc st2, r⟩
  · obtain ⟨s₂, o, st2, r⟩ := HY hc T locs cells slots X N eT hk hn
    exact ⟨s₂, o, Jvm.Free.XS.icmpYes X.here hx rfl (pc0 := pc) rfl d rfl hc ho rfl st2, r⟩
theorem h_eq {x y : Int32} : if_icmp.holds .eq x y = decide (x = y) := by by_cases h : x = y <;> simp [if_icmp.holds, h]
theorem h_ne {x y : Int32} : if_icmp.holds .ne x y = !decide (x = y) := by by_cases h : x = y <;> simp [if_icmp.holds, h]
theorem h_lt {x y : Int32} : if_icmp.holds .lt x y = decide (x < y) := by by_cases h : x < y <;> simp [if_icmp.holds, h]
theorem h_ge {x y : Int32} : if_icmp.holds .ge x y = !decide (x < y) := by by_cases h : x < y <;> simp [if_icmp.holds, h, Int32.not_le.mpr, Int32.not_lt.mp]
theorem h_gt {x y : Int32} : if_icmp.holds .gt x y = decide (y < x) := by by_cases h : y < x <;> simp [if_icmp.holds, h]
theorem h_le {x y : Int32} : if_icmp.holds .le x y = !decide (y < x) := by by_cases h : y < x <;> simp [if_icmp.holds, h, Int32.not_le.mpr, Int32.not_lt.mp]
theorem g_if_eq {kx nx : Nat} (cx : Cx Z p s m meth c R kx nx own nm code maxL ret) {x : Int32} (d : Bi code pc (Instr.ifCond .eq) pcY pcN) (HY : x = 0 → G p l e R s m args below meth c Z.heap.size Q h k n pcY Ls st) (HN : ¬ x = 0 → G p l e R s m args below meth c Z.heap.size Q h k n pcN Ls st) : G p l e R s m args below meth c Z.heap.size Q h k n pc Ls (.int x :: st) :=
  g_ifB cx d (fun q => HY (by rw [h_eq] at q; simpa using q)) (fun q => HN (by rw [h_eq] at q; simpa using q))
theorem g_icmp_eq {kx nx : Nat} (cx : Cx Z p s m meth c R kx nx own nm code maxL ret) {x y : Int32} (d : Bi code pc (Instr.if_icmp .eq) pcY pcN) (HY : x = y → G p l e R s m args below meth c Z.heap.size Q h k n pcY Ls st) (HN : ¬ x = y → G p l e R s m args below meth c Z.heap.size Q h k n pcN Ls st) : G p l e R s m args below meth c Z.heap.size Q h k n pc Ls (.int y :: .int x :: st) :=
  g_icmpB cx d (fun q => HY (by rw [h_eq] at q; simpa using q)) (fun q => HN (by rw [h_eq] at q; simpa using q))
theorem g_if_ne {kx nx : Nat} (cx : Cx Z p s m meth c R kx nx own nm code maxL ret) {x : Int32} (d : Bi code pc (Instr.ifCond .ne) pcY pcN) (HY : ¬ x = 0 → G p l e R s m args below meth c Z.heap.size Q h k n pcY Ls st) (HN : x = 0 → G p l e R s m args below meth c Z.heap.size Q h k n pcN Ls st) : G p l e R s m args below meth c Z.heap.size Q h k n pc Ls (.int x :: st) :=
  g_ifB cx d (fun q => HY (by rw [h_ne] at q; simpa using q)) (fun q => HN (by rw [h_ne] at q; simpa using q))
theorem g_icmp_ne {kx nx : Nat} (cx : Cx Z p s m meth c R kx nx own nm code maxL ret) {x y : Int32} (d : Bi code pc (Instr.if_icmp .ne) pcY pcN) (HY : ¬ x = y → G p l e R s m args below meth c Z.heap.size Q h k n pcY Ls st) (HN : x = y → G p l e R s m args below meth c Z.heap.size Q h k n pcN Ls st) : G p l e R s m args below meth c Z.heap.size Q h k n pc Ls (.int y :: .int x :: st) :=
  g_icmpB cx d (fun q => HY (by rw [h_ne] at q; simpa using q)) (fun q => HN (by rw [h_ne] at q; simpa using q))
theorem g_if_lt {kx nx : Nat} (cx : Cx Z p s m meth c R kx nx own nm code maxL ret) {x : Int32} (d : Bi code pc (Instr.ifCond .lt) pcY pcN) (HY : x < 0 → G p l e R s m args below meth c Z.heap.size Q h k n pcY Ls st) (HN : ¬ x < 0 → G p l e R s m args below meth c Z.heap.size Q h k n pcN Ls st) : G p l e R s m args below meth c Z.heap.size Q h k n pc Ls (.int x :: st) :=
  g_ifB cx d (fun q => HY (by rw [h_lt] at q; simpa using q)) (fun q => HN (by rw [h_lt] at q; simpa using q))
theorem g_icmp_lt {kx nx : Nat} (cx : Cx Z p s m meth c R kx nx own nm code maxL ret) {x y : Int32} (d : Bi code pc (Instr.if_icmp .lt) pcY pcN) (HY : x < y → G p l e R s m args below meth c Z.heap.size Q h k n pcY Ls st) (HN : ¬ x < y → G p l e R s m args below meth c Z.heap.size Q h k n pcN Ls st) : G p l e R s m args below meth c Z.heap.size Q h k n pc Ls (.int y :: .int x :: st) :=
  g_icmpB cx d (fun q => HY (by rw [h_lt] at q; simpa using q)) (fun q => HN (by rw [h_lt] at q; simpa using q))
theorem g_if_ge {kx nx : Nat} (cx : Cx Z p s m meth c R kx nx own nm code maxL ret) {x : Int32} (d : Bi code pc (Instr.ifCond .ge) pcY pcN) (HY : ¬ x < 0 → G p l e R s m args below meth c Z.heap.size Q h k n pcY Ls st) (HN : x < 0 → G p l e R s m args below meth c Z.heap.size Q h k n pcN Ls st) : G p l e R s m args below meth c Z.heap.size Q h k n pc Ls (.int x :: st) :=
  g_ifB cx d (fun q => HY (by rw [h_ge] at q; simpa using q)) (fun q => HN (by rw [h_ge] at q; simpa using q))
theorem g_icmp_ge {kx nx : Nat} (cx : Cx Z p s m meth c R kx nx own nm code maxL ret) {x y : Int32} (d : Bi code pc (Instr.if_icmp .ge) pcY pcN) (HY : ¬ x < y → G p l e R s m args below meth c Z.heap.size Q h k n pcY Ls st) (HN : x < y → G p l e R s m args below meth c Z.heap.size Q h k n pcN Ls st) : G p l e R s m args below meth c Z.heap.size Q h k n pc Ls (.int y :: .int x :: st) :=
  g_icmpB cx d (fun q => HY (by rw [h_ge] at q; simpa using q)) (fun q => HN (by rw [h_ge] at q; simpa using q))
theorem g_if_gt {kx nx : Nat} (cx : Cx Z p s m meth c R kx nx own nm code maxL ret) {x : Int32} (d : Bi code pc (Instr.ifCond .gt) pcY pcN) (HY : 0 < x → G p l e R s m args below meth c Z.heap.size Q h k n pcY Ls st) (HN : ¬ 0 < x → G p l e R s m args below meth c Z.heap.size Q h k n pcN Ls st) : G p l e R s m args below meth c Z.heap.size Q h k n pc Ls (.int x :: st) :=
  g_ifB cx d (fun q => HY (by rw [h_gt] at q; simpa using q)) (fun q => HN (by rw [h_gt] at q; simpa using q))
theorem g_icmp_gt {kx nx : Nat} (cx : Cx Z p s m meth c R kx nx own nm code maxL ret) {x y : Int32} (d : Bi code pc (Instr.if_icmp .gt) pcY pcN) (HY : y < x → G p l e R s m args below meth c Z.heap.size Q h k n pcY Ls st) (HN : ¬ y < x → G p l e R s m args below meth c Z.heap.size Q h k n pcN Ls st) : G p l e R s m args below meth c Z.heap.size Q h k n pc Ls (.int y :: .int x :: st) :=
  g_icmpB cx d (fun q => HY (by rw [h_gt] at q; simpa using q)) (fun q => HN (by rw [h_gt] at q; simpa using q))
theorem g_if_le {kx nx : Nat} (cx : Cx Z p s m meth c R kx nx own nm code maxL ret) {x : Int32} (d : Bi code pc (Instr.ifCond .le) pcY pcN) (HY : ¬ 0 < x → G p l e R s m args below meth c Z.heap.size Q h k n pcY Ls st) (HN : 0 < x → G p l e R s m args below meth c Z.heap.size Q h k n pcN Ls st) : G p l e R s m args below meth c Z.heap.size Q h k n pc Ls (.int x :: st) :=
  g_ifB cx d (fun q => HY (by rw [h_le] at q; simpa using q)) (fun q => HN (by rw [h_le] at q; simpa using q))
theorem g_icmp_le {kx nx : Nat} (cx : Cx Z p s m meth c R kx nx own nm code maxL ret) {x y : Int32} (d : Bi code pc (Instr.if_icmp .le) pcY pcN) (HY : ¬ y < x → G p l e R s m args below meth c Z.heap.size Q h k n pcY Ls st) (HN : y < x → G p l e R s m args below meth c Z.heap.size Q h k n pcN Ls st) : G p l e R s m args below meth c Z.heap.size Q h k n pc Ls (.int y :: .int x :: st) :=
  g_icmpB cx d (fun q => HY (by rw [h_le] at q; simpa using q)) (fun q => HN (by rw [h_le] at q; simpa using q))
theorem g_lcmp {kx nx : Nat} (cx : Cx Z p s m meth c R kx nx own nm code maxL ret) {x y : Int64} (d : Dc code pc .lcmp 1 pc') (H : G p l e R s m args below meth c Z.heap.size Q h k n pc' Ls (.int (lcmpW x y) :: st)) : G p l e R s m args below meth c Z.heap.size Q h k n pc Ls (.long y :: .long x :: st) := by
  obtain ⟨hx, hZ, hown, rfl, hml, hret, hnm, -⟩ := cx
  obtain ⟨d, rfl⟩ := d
  intro T locs cells slots X N eT hk hn
  obtain ⟨s₂, o, st2, r⟩ := H T locs cells slots X N eT hk hn
  exact ⟨s₂, o, Jvm.Free.XS.lcmp X.here hx rfl d rfl st2, r⟩
theorem g_lif_eq {kx nx : Nat} (cx : Cx Z p s m meth c R kx nx own nm code maxL ret) {x y : Int64} (d0 : Dc code pc .lcmp 1 pc') (d : Bi code pc' (Instr.ifCond .eq) pcY pcN) (HY : x = y → G p l e R s m args below meth c Z.heap.size Q h k n pcY Ls st) (HN : ¬ x = y → G p l e R s m args below meth c Z.heap.size Q h k n pcN Ls st) : G p l e R s m args below meth c Z.heap.size Q h k n pc Ls (.long y :: .long x :: st) :=
  g_lcmp cx d0 (g_if_eq cx d (fun q => HY ((lw_eq x y).mp q)) (fun q => HN (fun z => q ((lw_eq x y).mpr z))))
theorem g_lif_ne {kx nx : Nat} (cx : Cx Z p s m meth c R kx nx own nm code maxL ret) {x y : Int64} (d0 : Dc code pc .lcmp 1 pc') (d : Bi code pc' (Instr.ifCond .ne) pcY pcN) (HY : ¬ x = y → G p l e R s m args below meth c Z.heap.size Q h k n pcY Ls st) (HN : x = y → G p l e R s m args below meth c Z.heap.size Q h k n pcN Ls st) : G p l e R s m args below meth c Z.heap.size Q h k n pc Ls (.long y :: .long x :: st) :=
  g_lcmp cx d0 (g_if_ne cx d (fun q => HY (fun z => q ((lw_eq x y).mpr z))) (fun q => HN ((lw_eq x y).mp q)))
theorem g_lif_lt {kx nx : Nat} (cx : Cx Z p s m meth c R kx nx own nm code maxL ret) {x y : Int64} (d0 : Dc code pc .lcmp 1 pc') (d : Bi code pc' (Instr.ifCond .lt) pcY pcN) (HY : x < y → G p l e R s m args below meth c Z.heap.size Q h k n pcY Ls st) (HN : ¬ x < y → G p l e R s m args below meth c Z.heap.size Q h k n pcN Ls st) : G p l e R s m args below meth c Z.heap.size Q h k n pc Ls (.long y :: .long x :: st) :=
  g_lcmp cx d0 (g_if_lt cx d (fun q => HY ((lw_lt x y).mp q)) (fun q => HN (fun z => q ((lw_lt x y).mpr z))))
theorem g_lif_ge {kx nx : Nat} (cx : Cx Z p s m meth c R kx nx own nm code maxL ret) {x y : Int64} (d0 : Dc code pc .lcmp 1 pc') (d : Bi code pc' (Instr.ifCond .ge) pcY pcN) (HY : ¬ x < y → G p l e R s m args below meth c Z.heap.size Q h k n pcY Ls st) (HN : x < y → G p l e R s m args below meth c Z.heap.size Q h k n pcN Ls st) : G p l e R s m args below meth c Z.heap.size Q h k n pc Ls (.long y :: .long x :: st) :=
  g_lcmp cx d0 (g_if_ge cx d (fun q => HY (fun z => q ((lw_lt x y).mpr z))) (fun q => HN ((lw_lt x y).mp q)))
theorem g_lif_gt {kx nx : Nat} (cx : Cx Z p s m meth c R kx nx own nm code maxL ret) {x y : Int64} (d0 : Dc code pc .lcmp 1 pc') (d : Bi code pc' (Instr.ifCond .gt) pcY pcN) (HY : y < x → G p l e R s m args below meth c Z.heap.size Q h k n pcY Ls st) (HN : ¬ y < x → G p l e R s m args below meth c Z.heap.size Q h k n pcN Ls st) : G p l e R s m args below meth c Z.heap.size Q h k n pc Ls (.long y :: .long x :: st) :=
  g_lcmp cx d0 (g_if_gt cx d (fun q => HY ((lw_gt x y).mp q)) (fun q => HN (fun z => q ((lw_gt x y).mpr z))))
theorem g_lif_le {kx nx : Nat} (cx : Cx Z p s m meth c R kx nx own nm code maxL ret) {x y : Int64} (d0 : Dc code pc .lcmp 1 pc') (d : Bi code pc' (Instr.ifCond .le) pcY pcN) (HY : ¬ y < x → G p l e R s m args below meth c Z.heap.size Q h k n pcY Ls st) (HN : y < x → G p l e R s m args below meth c Z.heap.size Q h k n pcN Ls st) : G p l e R s m args below meth c Z.heap.size Q h k n pc Ls (.long y :: .long x :: st) :=
  g_lcmp cx d0 (g_if_le cx d (fun q => HY (fun z => q ((lw_gt x y).mpr z))) (fun q => HN ((lw_gt x y).mp q)))
theorem g_acmp {kx nx : Nat} (cx : Cx Z p s m meth c R kx nx own nm code maxL ret) {cd : ACond} {x y : Value} (h1 : x.isRef = true) (h2 : y.isRef = true) (d : Bi code pc (Instr.if_acmp cd) pcY pcN) (HY : x = y → G p l e R s m args below meth c Z.heap.size Q h k n (if acV cd true = true then pcY else pcN) Ls st) (HN : ¬ x = y → G p l e R s m args below meth c Z.heap.size Q h k n (if acV cd false = true then pcY else pcN) Ls st) : G p l e R s m args below meth c Z.heap.size Q h k n pc Ls (y :: x :: st) := by
  obtain ⟨hx, hZ, hown, rfl, hml, hret, hnm, -⟩ := cx
  obtain ⟨o', d, ho, rfl, rfl⟩ := d
  intro T locs cells slots X N eT hk hn
  by_cases hc : x = y
  · obtain ⟨s₂, o, st2, r⟩ := HY hc T locs cells slots X N eT hk hn
    exact ⟨s₂, o, Jvm.RoadKit.acmp (g := mkF m pc Ls (y :: x :: st)) X hx rfl h1 h2 (pc0 := pc) (same := true) rfl d rfl (decide_eq_true hc) ho rfl st2, r⟩
  · obtain ⟨s₂, o, st2, r⟩ := HN hc T locs cells slots X N eT hk hn
    exact ⟨s₂, o, Jvm.RoadKit.acmp (g := mkF m pc Ls (y :: x :: st)) X hx rfl h1 h2 (pc0 := pc) (same := false) rfl d rfl (decide_eq_false hc) ho rfl st2, r⟩
theorem g_acmp_eq {kx nx : Nat} (cx : Cx Z p s m meth c R kx nx own nm code maxL ret) {x y : Value} (h1 : x.isRef = true) (h2 : y.isRef = true) (d : Bi code pc (Instr.if_acmp .eq) pcY pcN) (HY : x = y → G p l e R s m args below meth c Z.heap.size Q h k n pcY Ls st) (HN : ¬ x = y → G p l e R s m args below meth c Z.heap.size Q h k n pcN Ls st) : G p l e R s m args below meth c Z.heap.size Q h k n pc Ls (y :: x :: st) := g_acmp cx h1 h2 d HY HN
theorem g_acmp_ne {kx nx : Nat} (cx : Cx Z p s m meth c R kx nx own nm code maxL ret) {x y : Value} (h1 : x.isRef = true) (h2 : y.isRef = true) (d : Bi code pc (Instr.if_acmp .ne) pcY pcN) (HY : ¬ x = y → G p l e R s m args below meth c Z.heap.size Q h k n pcY Ls st) (HN : x = y → G p l e R s m args below meth c Z.heap.size Q h k n pcN Ls st) : G p l e R s m args below meth c Z.heap.size Q h k n pc Ls (y :: x :: st) := g_acmp cx h1 h2 d HN HY
theorem g_ifnull_null {kx nx : Nat} (cx : Cx Z p s m meth c R kx nx own nm code maxL ret) (d : Bi code pc Instr.ifnull pcY pcN) (H : G p l e R s m args below meth c Z.heap.size Q h k n pcY Ls st) : G p l e R s m args below meth c Z.heap.size Q h k n pc Ls (.null :: st) := by
  obtain ⟨hx, hZ, hown, rfl, hml, hret, hnm, -⟩ := cx
  obtain ⟨o', d, ho, rfl, rfl⟩ := d
  intro T locs cells slots X N eT hk hn
  obtain ⟨s₂, o, st2, r⟩ := H T locs cells slots X N eT hk hn
  exact ⟨s₂, o, Jvm.Free.XS.ifnullYes X.here hx rfl (pc0 := pc) rfl d rfl ho rfl st2, r⟩
theorem g_ifnull_ref {kx nx : Nat} (cx : Cx Z p s m meth c R kx nx own nm code maxL ret) {a : Addr} (d : Bi code pc Instr.ifnull pcY pcN) (H : G p l e R s m args below meth c Z.heap.size Q h k n pcN Ls st) : G p l e R s m args below meth c Z.heap.size Q h k n pc Ls (.ref a :: st) := by
  obtain ⟨hx, hZ, hown, rfl, hml, hret, hnm, -⟩ := cx
  obtain ⟨o', d, ho, rfl, rfl⟩ := d
  intro T locs cells slots X N eT hk hn
  obtain ⟨s₂, o, st2, r⟩ := H T locs cells slots X N eT hk hn
  exact ⟨s₂, o, Jvm.Free.XS.ifnullNo X.here hx rfl d rfl st2, r⟩
theorem g_ifnonnull_ref {kx nx : Nat} (cx : Cx Z p s m meth c R kx nx own nm code maxL ret) {a : Addr} (d : Bi code pc Instr.ifnonnull pcY pcN) (H : G p l e R s m args below meth c Z.heap.size Q h k n pcY Ls st) : G p l e R s m args below meth c Z.heap.size Q h k n pc Ls (.ref a :: st) := by
  obtain ⟨hx, hZ, hown, rfl, hml, hret, hnm, -⟩ := cx
  obtain ⟨o', d, ho, rfl, rfl⟩ := d
  intro T locs cells slots X N eT hk hn
  obtain ⟨s₂, o, st2, r⟩ := H T locs cells slots X N eT hk hn
  exact ⟨s₂, o, Jvm.Free.XS.ifnonnullYes X.here hx rfl (pc0 := pc) rfl d rfl ho rfl st2, r⟩
theorem g_ifnonnull_null {kx nx : Nat} (cx : Cx Z p s m meth c R kx nx own nm code maxL ret) (d : Bi code pc Instr.ifnonnull pcY pcN) (H : G p l e R s m args below meth c Z.heap.size Q h k n pcN Ls st) : G p l e R s m args below meth c Z.heap.size Q h k n pc Ls (.null :: st) := by
  obtain ⟨hx, hZ, hown, rfl, hml, hret, hnm, -⟩ := cx
  obtain ⟨o', d, ho, rfl, rfl⟩ := d
  intro T locs cells slots X N eT hk hn
  obtain ⟨s₂, o, st2, r⟩ := H T locs cells slots X N eT hk hn
  exact ⟨s₂, o, Jvm.Free.XS.ifnonnullNo X.here hx rfl d rfl st2, r⟩
theorem g_ldcI {kx nx : Nat} (cx : Cx Z p s m meth c R kx nx own nm code maxL ret) {i : Nat} {v : Int32} (d : Dc code pc (.ldc i) 2 pc') (w : (Jvm.Cond.constant own i v).before a0 Z = true) (H : G p l e R s m args below meth c Z.heap.size Q h k n pc' Ls (.int v :: st)) : G p l e R s m args below meth c Z.heap.size Q h k n pc Ls st := by
  obtain ⟨hx, hZ, hown, rfl, hml, hret, hnm, -⟩ := cx
  obtain ⟨d, rfl⟩ := d
  intro T locs cells slots X N eT hk hn
  obtain ⟨s₂, o, st2, r⟩ := H T locs cells slots X N eT hk hn
  exact ⟨s₂, o, X.ldcInt hx hown (mvT hZ w) (g := mkF m pc Ls st) rfl d _ st2, r⟩
theorem g_ldcJ {kx nx : Nat} (cx : Cx Z p s m meth c R kx nx own nm code maxL ret) {i : Nat} {v : Int64} (d : Dc code pc (.ldc2_w i) 3 pc') (w : (Jvm.Cond.constantLong own i v).before a0 Z = true) (H : G p l e R s m args below meth c Z.heap.size Q h k n pc' Ls (.long v :: st)) : G p l e R s m args below meth c Z.heap.size Q h k n pc Ls st := by
  obtain ⟨hx, hZ, hown, rfl, hml, hret, hnm, -⟩ := cx
  obtain ⟨d, rfl⟩ := d
  intro T locs cells slots X N eT hk hn
  obtain ⟨s₂, o, st2, r⟩ := H T locs cells slots X N eT hk hn
  exact ⟨s₂, o, X.ldc2Long hx hown (mvT hZ w) (g := mkF m pc Ls st) rfl d _ st2, r⟩
theorem g_getF {kx nx : Nat} (cx : Cx Z p s m meth c R kx nx own nm code maxL ret) {R0 O f ds host : String} {i : Nat} {a : Addr} {v : Value} (d : Dc code pc (.getfield i) 3 pc') (w : (Jvm.Cond.fieldLink own i R0 f ds).before a0 Z = true ∨ (Jvm.Cond.fieldLinkNest own i R0 f ds host).before a0 Z = true) (via : Via Z R0 O f ds) (F : Fld Z h a O f ds v) (H : G p l e R s m args below meth c Z.heap.size Q h k n pc' Ls (v :: st)) : G p l e R s m args below meth c Z.heap.size Q h k n pc Ls (.ref a :: st) := by
  obtain ⟨hx, hZ, hown, rfl, hml, hret, hnm, -⟩ := cx
  obtain ⟨d, rfl⟩ := d
  intro T locs cells slots X N eT hk hn
  obtain ⟨T', X', e', stp⟩ := getF X hx hZ hown w via eT F (g := mkF m pc Ls (.ref a :: st)) rfl rfl d
  obtain ⟨s₂, o, st2, r⟩ := H T' locs cells slots X' N e' hk hn
  exact ⟨s₂, o, stp _ st2, r⟩
theorem g_getS {kx nx : Nat} (cx : Cx Z p s m meth c R kx nx own nm code maxL ret) {R0 O f ds host : String} {i : Nat} {v : Value} (d : Dc code pc (.getstatic i) 3 pc') (w : (Jvm.Cond.fieldLink own i R0 f ds).before a0 Z = true ∨ (Jvm.Cond.fieldLinkNest own i R0 f ds host).before a0 Z = true) (via : Via Z R0 O f ds) (F : Sta Z h O f ds v) (H : G p l e R s m args below meth c Z.heap.size Q h k n pc' Ls (v :: st)) : G p l e R s m args below meth c Z.heap.size Q h k n pc Ls st := by
  obtain ⟨hx, hZ, hown, rfl, hml, hret, hnm, -⟩ := cx
  obtain ⟨d, rfl⟩ := d
  intro T locs cells slots X N eT hk hn
  obtain ⟨T', X', e', stp⟩ := getS2 X hx hZ hown w via eT F (g := mkF m pc Ls st) rfl d
  obtain ⟨s₂, o, st2, r⟩ := H T' locs cells slots X' N e' hk hn
  exact ⟨s₂, o, stp _ st2, r⟩
theorem g_putF {kx nx : Nat} (cx : Cx Z p s m meth c R kx nx own nm code maxL ret) {R0 O f ds host C : String} {i kk : Nat} {ty : FieldType} {a : Addr} {v old : Value} (d : Dc code pc (.putfield i) 3 pc') (w : (Jvm.Cond.fieldLink own i R0 f ds).before a0 Z = true ∨ (Jvm.Cond.fieldLinkNest own i R0 f ds host).before a0 Z = true) (via : Via Z R0 O f ds) (F : Fld Z h a O f ds old) (E : Exa Z h a C)
    (L : (Jvm.Cond.lays C O f ds).before a0 Z = true ∨ ((Jvm.Cond.laysFinal C O f ds).before a0 Z = true ∧ own = O ∧ nm = "<init>")) (wi : (Jvm.Cond.instantiable C kk).before a0 Z = true) (hty : parseFieldDescriptor ds = some ty) (hnar : narrow ty v = v) (hfit : fits ty v = true) (g : Z.heap.size ≤ a)
    (H : ∀ h', Wr h h' a (Jvm.RoadKit.slotOf Z O f ds) v → G p l e R s m args below meth c Z.heap.size Q h' k n pc' Ls st) : G p l e R s m args below meth c Z.heap.size Q h k n pc Ls (v :: .ref a :: st) := by
  obtain ⟨hx, hZ, hown, rfl, hml, hret, rfl, -⟩ := cx
  obtain ⟨d, rfl⟩ := d
  intro T locs cells slots X N eT hk hn
  obtain ⟨T', h', X', e', W, stp⟩ := putF X hx hZ hown w via eT F E L wi hty hnar hfit (g := mkF m pc Ls (v :: .ref a :: st)) rfl rfl d
  obtain ⟨s₂, o, st2, r⟩ := H h' W T' _ cells slots X' (Fr.snoc X' N g) e' hk hn
  exact ⟨s₂, o, stp _ st2, r⟩
theorem g_putFN {kx nx : Nat} (cx : Cx Z p s m meth c R kx nx own nm code maxL ret) {R0 O f ds C : String} {i kk : Nat} {ty : FieldType} {a : Addr} {v v' old : Value} (d : Dc code pc (.putfield i) 3 pc') (w : (Jvm.Cond.fieldLink own i R0 f ds).before a0 Z = true) (via : Via Z R0 O f ds) (F : Fld Z h a O f ds old) (E : Exa Z h a C)
    (L : (Jvm.Cond.lays C O f ds).before a0 Z = true ∨ ((Jvm.Cond.laysFinal C O f ds).before a0 Z = true ∧ own = O ∧ nm = "<init>")) (wi : (Jvm.Cond.instantiable C kk).before a0 Z = true) (hty : parseFieldDescriptor ds = some ty) (hnar : narrow ty v = v') (hfit : fits ty v' = true) (g : Z.heap.size ≤ a)
    (H : ∀ h', Wr h h' a (Jvm.RoadKit.slotOf Z O f ds) v' → G p l e R s m args below meth c Z.heap.size Q h' k n pc' Ls st) : G p l e R s m args below meth c Z.heap.size Q h k n pc Ls (v :: .ref a :: st) := by
  obtain ⟨hx, hZ, hown, rfl, hml, hret, rfl, -⟩ := cx
  obtain ⟨d, rfl⟩ := d
  intro T locs cells slots X N eT hk hn
  obtain ⟨T', h', X', e', W, stp⟩ := putFN X hx hZ hown w via eT F E L wi hty hnar hfit (g := mkF m pc Ls (v :: .ref a :: st)) rfl rfl d
  obtain ⟨s₂, o, st2, r⟩ := H h' W T' _ cells slots X' (Fr.snoc X' N g) e' hk hn
  exact ⟨s₂, o, stp _ st2, r⟩
theorem g_new {kx nx : Nat} (cx : Cx Z p s m meth c R kx nx own nm code maxL ret) {C : String} {i sl : Nat} {k' n' : Nat} (d : Dc code pc (.new i) 3 pc') (w : (Jvm.Cond.classLink own i C).before a0 Z = true) (wi : (Jvm.Cond.instantiable C sl).before a0 Z = true) (wz : (Jvm.Cond.initialized C).before a0 Z = true) (hk1 : k + 1 = k') (hn1 : n + sl = n') (hkR : k' ≤ R.cells) (hnR : n' ≤ R.slots)
    (H : ∀ h' b, b = h.size → Ext h h' → Exa Z h' b C → (∀ {O nm d : String} {ty : FieldType}, Laid Z a0 C O nm d → parseFieldDescriptor d = some ty → Fld Z h' b O nm d (defaultValue ty)) → G p l e R s m args below meth c Z.heap.size Q h' k' n' pc' Ls (.ref b :: st)) : G p l e R s m args below meth c Z.heap.size Q h k n pc Ls st := by
  obtain ⟨hx, hZ, hown, rfl, hml, hret, hnm, -⟩ := cx
  obtain ⟨d, rfl⟩ := d
  subst hk1 hn1
  intro T locs cells slots X N eT hk hn
  obtain ⟨T', h', X', e', E, A, D, -, stp⟩ := newO X hx hZ hown w wi wz eT (g := mkF m pc Ls st) rfl d (by omega) (by omega)
  obtain ⟨s₂, o, st2, r⟩ := H h' _ rfl E A D T' locs _ _ X' N e' (by omega) (by omega)
  exact ⟨s₂, o, stp _ st2, r⟩
theorem g_newarray {kx nx : Nat} (cx : Cx Z p s m meth c R kx nx own nm code maxL ret) {aty : ArrayType} {z : Int32} {cap k' n' : Nat} {ad : String} (had : "[" ++ (newarray.typeOf aty).toString = ad) (d : Dc code pc (.newarray aty) 2 pc') (w : (Jvm.Cond.arrayClass (newarray.typeOf aty)).before a0 Z = true) (hz : ¬ z < 0) (hcap : z.toNatClampNeg ≤ cap) (hb : cap * 8 ≤ 536870912) (hk1 : k + 1 = k') (hn1 : n + cap = n') (hkR : k' ≤ R.cells) (hnR : n' ≤ R.slots)
    (H : ∀ h' b cA, b = h.size → Ext h h' → Arx Z h' b cA (newarray.typeOf aty) z [] (defaultValue (newarray.typeOf aty)) ad → G p l e R s m args below meth c Z.heap.size Q h' k' n' pc' Ls (.ref b :: st)) : G p l e R s m args below meth c Z.heap.size Q h k n pc Ls (.int z :: st) := by
  obtain ⟨hx, hZ, hown, rfl, hml, hret, hnm, -⟩ := cx
  obtain ⟨d, rfl⟩ := d
  subst hk1 hn1
  intro T locs cells slots X N eT hk hn
  obtain ⟨T', h', cA, X', e', E, A, Ex, stp⟩ := newPE X hx hZ w eT (g := mkF m pc Ls (.int z :: st)) rfl d rfl hz hcap hb (by omega) (by omega) had
  obtain ⟨s₂, o, st2, r⟩ := H h' _ cA rfl E ⟨Arv.new A hz, Ex⟩ T' locs _ _ X' N e' (by omega) (by omega)
  exact ⟨s₂, o, stp _ st2, r⟩
theorem g_anewarray {kx nx : Nat} (cx : Cx Z p s m meth c R kx nx own nm code maxL ret) {C ad : String} {i : Nat} {z : Int32} {cap k' n' : Nat} (had : "[" ++ (FieldType.object C).toString = ad) (d : Dc code pc (.anewarray i) 3 pc') (w1 : (Jvm.Cond.classLink own i C).before a0 Z = true) (w2 : (Jvm.Cond.arrayOver (.object C)).before a0 Z = true) (hz : ¬ z < 0) (hcap : z.toNatClampNeg ≤ cap) (hb : cap * 8 ≤ 536870912) (hk1 : k + 1 = k') (hn1 : n + cap = n') (hkR : k' ≤ R.cells) (hnR : n' ≤ R.slots)
    (H : ∀ h' b cA, b = h.size → Ext h h' → Arx Z h' b cA (.object C) z [] .null ad → Ovr Z cA C → G p l e R s m args below meth c Z.heap.size Q h' k' n' pc' Ls (.ref b :: st)) : G p l e R s m args below meth c Z.heap.size Q h k n pc Ls (.int z :: st) := by
  obtain ⟨hx, hZ, hown, rfl, hml, hret, hnm, -⟩ := cx
  obtain ⟨d, rfl⟩ := d
  subst hk1 hn1
  intro T locs cells slots X N eT hk hn
  obtain ⟨T', h', cA, X', e', E, A, Ex, O, stp⟩ := newRE X hx hZ hown w1 w2 eT (g := mkF m pc Ls (.int z :: st)) rfl d rfl hz hcap hb (by omega) (by omega) had
  obtain ⟨s₂, o, st2, r⟩ := H h' _ cA rfl E ⟨Arv.new A hz, Ex⟩ O T' locs _ _ X' N e' (by omega) (by omega)
  exact ⟨s₂, o, stp _ st2, r⟩
theorem g_anewarrayA {kx nx : Nat} (cx : Cx Z p s m meth c R kx nx own nm code maxL ret) {C ad : String} {t : FieldType} {i : Nat} {z : Int32} {cap k' n' : Nat} (hC : (FieldType.array t).toString = C) (had : "[" ++ C = ad) (d : Dc code pc (.anewarray i) 3 pc') (w1 : (Jvm.Cond.classLink own i C).before a0 Z = true) (w2 : (Jvm.Cond.arrayOver (.array t)).before a0 Z = true) (hz : ¬ z < 0) (hcap : z.toNatClampNeg ≤ cap) (hb : cap * 8 ≤ 536870912) (hk1 : k + 1 = k') (hn1 : n + cap = n') (hkR : k' ≤ R.cells) (hnR : n' ≤ R.slots)
    (H : ∀ h' b cA, b = h.size → Ext h h' → Arx Z h' b cA (.array t) z [] .null ad → OvrA Z cA t C → G p l e R s m args below meth c Z.heap.size Q h' k' n' pc' Ls (.ref b :: st)) : G p l e R s m args below meth c Z.heap.size Q h k n pc Ls (.int z :: st) := by
  obtain ⟨hx, hZ, hown, rfl, hml, hret, hnm, -⟩ := cx
  obtain ⟨d, rfl⟩ := d
  subst hk1 hn1
  intro T locs cells slots X N eT hk hn
  obtain ⟨T', h', cA, X', e', E, A, Ex, O, stp⟩ := newRA X hx hZ hown hC w1 w2 eT (g := mkF m pc Ls (.int z :: st)) rfl d rfl hz hcap hb (by omega) (by omega) had
  obtain ⟨s₂, o, st2, r⟩ := H h' _ cA rfl E ⟨Arv.new A hz, Ex⟩ O T' locs _ _ X' N e' (by omega) (by omega)
  exact ⟨s₂, o, stp _ st2, r⟩
theorem g_iastore {kx nx : Nat} (cx : Cx Z p s m meth c R kx nx own nm code maxL ret) {a : Addr} {cA : ClassId} {z j : Int32} {ad : String} {vs : List Value} {dv : Value} {x : Int32} (d : Dc code pc .iastore 1 pc') (A : Arx Z h a cA .int z vs dv ad) (hj : ¬ j < 0 ∧ j < z) (hl : j.toNatClampNeg < vs.length) (g : Z.heap.size ≤ a) (H : ∀ h', Wr h h' a j.toNatClampNeg (.int x) → Arx Z h' a cA .int z (vs.set j.toNatClampNeg (.int x)) dv ad → G p l e R s m args below meth c Z.heap.size Q h' k n pc' Ls st) : G p l e R s m args below meth c Z.heap.size Q h k n pc Ls (.int x :: .int j :: .ref a :: st) := by
  obtain ⟨hx, hZ, hown, rfl, hml, hret, hnm, -⟩ := cx
  obtain ⟨d, rfl⟩ := d
  intro T locs cells slots X N eT hk hn
  obtain ⟨⟨cl, Ar, q, S, Nz, Hs, Gf⟩, Ex⟩ := A
  obtain ⟨T', h', X', e', W, stp⟩ := stI X hx hZ eT Ar (j := j) (inb_of S hj) (g := mkF m pc Ls (.int x :: .int j :: .ref a :: st)) rfl rfl d
  obtain ⟨s₂, o, st2, r⟩ := H h' W ⟨Arv.set Ar q S Nz Hs Gf rfl W _ rfl hl, Ex.wr W⟩ T' _ cells slots X' (Fr.snoc X' N g) e' hk hn
  exact ⟨s₂, o, stp _ st2, r⟩
theorem g_lastore {kx nx : Nat} (cx : Cx Z p s m meth c R kx nx own nm code maxL ret) {a : Addr} {cA : ClassId} {z j : Int32} {ad : String} {vs : List Value} {dv : Value} {x : Int64} (d : Dc code pc .lastore 1 pc') (A : Arx Z h a cA .long z vs dv ad) (hj : ¬ j < 0 ∧ j < z) (hl : j.toNatClampNeg < vs.length) (g : Z.heap.size ≤ a) (H : ∀ h', Wr h h' a j.toNatClampNeg (.long x) → Arx Z h' a cA .long z (vs.set j.toNatClampNeg (.long x)) dv ad → G p l e R s m args below meth c Z.heap.size Q h' k n pc' Ls st) : G p l e R s m args below meth c Z.heap.size Q h k n pc Ls (.long x :: .int j :: .ref a :: st) := by
  obtain ⟨hx, hZ, hown, rfl, hml, hret, hnm, -⟩ := cx
  obtain ⟨d, rfl⟩ := d
  intro T locs cells slots X N eT hk hn
  obtain ⟨⟨cl, Ar, q, S, Nz, Hs, Gf⟩, Ex⟩ := A
  obtain ⟨T', h', X', e', W, stp⟩ := stJ X hx hZ eT Ar (j := j) (inb_of S hj) (g := mkF m pc Ls (.long x :: .int j :: .ref a :: st)) rfl rfl d
  obtain ⟨s₂, o, st2, r⟩ := H h' W ⟨Arv.set Ar q S Nz Hs Gf rfl W _ rfl hl, Ex.wr W⟩ T' _ cells slots X' (Fr.snoc X' N g) e' hk hn
  exact ⟨s₂, o, stp _ st2, r⟩
theorem g_castore {kx nx : Nat} (cx : Cx Z p s m meth c R kx nx own nm code maxL ret) {a : Addr} {cA : ClassId} {z j : Int32} {ad : String} {vs : List Value} {dv : Value} {x : Int32} (d : Dc code pc .castore 1 pc') (A : Arx Z h a cA .char z vs dv ad) (hj : ¬ j < 0 ∧ j < z) (hl : j.toNatClampNeg < vs.length) (g : Z.heap.size ≤ a) (H : ∀ h', Wr h h' a j.toNatClampNeg (.int (nar .char x)) → Arx Z h' a cA .char z (vs.set j.toNatClampNeg (.int (nar .char x))) dv ad → G p l e R s m args below meth c Z.heap.size Q h' k n pc' Ls st) : G p l e R s m args below meth c Z.heap.size Q h k n pc Ls (.int x :: .int j :: .ref a :: st) := by
  obtain ⟨hx, hZ, hown, rfl, hml, hret, hnm, -⟩ := cx
  obtain ⟨d, rfl⟩ := d
  intro T locs cells slots X N eT hk hn
  obtain ⟨⟨cl, Ar, q, S, Nz, Hs, Gf⟩, Ex⟩ := A
  obtain ⟨T', h', X', e', W, stp⟩ := stC X hx hZ eT Ar (j := j) (inb_of S hj) (g := mkF m pc Ls (.int x :: .int j :: .ref a :: st)) rfl rfl d
  obtain ⟨s₂, o, st2, r⟩ := H h' W ⟨Arv.set Ar q S Nz Hs Gf (fits_nar_char _) W _ rfl hl, Ex.wr W⟩ T' _ cells slots X' (Fr.snoc X' N g) e' hk hn
  exact ⟨s₂, o, stp _ st2, r⟩
theorem g_bastore {kx nx : Nat} (cx : Cx Z p s m meth c R kx nx own nm code maxL ret) {a : Addr} {cA : ClassId} {z j : Int32} {ad : String} {vs : List Value} {dv : Value} {x : Int32} (d : Dc code pc .bastore 1 pc') (A : Arx Z h a cA .byte z vs dv ad) (hj : ¬ j < 0 ∧ j < z) (hl : j.toNatClampNeg < vs.length) (g : Z.heap.size ≤ a) (H : ∀ h', Wr h h' a j.toNatClampNeg (.int (nar .byte x)) → Arx Z h' a cA .byte z (vs.set j.toNatClampNeg (.int (nar .byte x))) dv ad → G p l e R s m args below meth c Z.heap.size Q h' k n pc' Ls st) : G p l e R s m args below meth c Z.heap.size Q h k n pc Ls (.int x :: .int j :: .ref a :: st) := by
  obtain ⟨hx, hZ, hown, rfl, hml, hret, hnm, -⟩ := cx
  obtain ⟨d, rfl⟩ := d
  intro T locs cells slots X N eT hk hn
  obtain ⟨⟨cl, Ar, q, S, Nz, Hs, Gf⟩, Ex⟩ := A
  obtain ⟨T', h', X', e', W, stp⟩ := stB X hx hZ eT Ar (j := j) (inb_of S hj) (g := mkF m pc Ls (.int x :: .int j :: .ref a :: st)) rfl rfl d
  obtain ⟨s₂, o, st2, r⟩ := H h' W ⟨Arv.set Ar q S Nz Hs Gf (fits_nar_byte _) W _ rfl hl, Ex.wr W⟩ T' _ cells slots X' (Fr.snoc X' N g) e' hk hn
  exact ⟨s₂, o, stp _ st2, r⟩
theorem g_aastore {kx nx : Nat} (cx : Cx Z p s m meth c R kx nx own nm code maxL ret) {a : Addr} {cA : ClassId} {z j : Int32} {ad : String} {vs : List Value} {dv v : Value} {ty : FieldType} (d : Dc code pc .aastore 1 pc') (A : Arx Z h a cA ty z vs dv ad) (hty : ty.isReference = true) (hf : fits ty v = true) (So : Sto Z h a v) (hj : ¬ j < 0 ∧ j < z) (hl : j.toNatClampNeg < vs.length) (g : Z.heap.size ≤ a) (H : ∀ h', Wr h h' a j.toNatClampNeg v → Arx Z h' a cA ty z (vs.set j.toNatClampNeg v) dv ad → G p l e R s m args below meth c Z.heap.size Q h' k n pc' Ls st) : G p l e R s m args below meth c Z.heap.size Q h k n pc Ls (v :: .int j :: .ref a :: st) := by
  obtain ⟨hx, hZ, hown, rfl, hml, hret, hnm, -⟩ := cx
  obtain ⟨d, rfl⟩ := d
  intro T locs cells slots X N eT hk hn
  obtain ⟨⟨cl, Ar, q, S, Nz, Hs, Gf⟩, Ex⟩ := A
  obtain ⟨T', h', X', e', W, stp⟩ := stR X hx hZ eT Ar (j := j) (inb_of S hj) hty So (g := mkF m pc Ls (v :: .int j :: .ref a :: st)) rfl rfl d
  obtain ⟨s₂, o, st2, r⟩ := H h' W ⟨Arv.set Ar q S Nz Hs Gf hf W _ rfl hl, Ex.wr W⟩ T' _ cells slots X' (Fr.snoc X' N g) e' hk hn
  exact ⟨s₂, o, stp _ st2, r⟩
theorem g_iaload {kx nx : Nat} (cx : Cx Z p s m meth c R kx nx own nm code maxL ret) {a : Addr} {cA : ClassId} {z j : Int32} {vs : List Value} {dv v : Value} (d : Dc code pc .iaload 1 pc') (A : Arv Z h a cA .int z vs dv) (hj : ¬ j < 0 ∧ j < z) (hv : vs.getD j.toNatClampNeg dv = v) (H : G p l e R s m args below meth c Z.heap.size Q h k n pc' Ls (v :: st)) : G p l e R s m args below meth c Z.heap.size Q h k n pc Ls (.int j :: .ref a :: st) := by
  obtain ⟨hx, hZ, hown, rfl, hml, hret, hnm, -⟩ := cx
  obtain ⟨d, rfl⟩ := d
  intro T locs cells slots X N eT hk hn
  obtain ⟨cl, Ar, q, S, Nz, Hs, Gf⟩ := A
  obtain ⟨s₂, o, st2, r⟩ := H T _ cells slots X N eT hk hn
  exact ⟨s₂, o, X.iaload hx (j := j) (v := v) (by rw [eT]; exact Ar.1) (State.isArrayOf_alike hZ.alike Ar.2.1) Ar.2.2 (inb_of S hj) (Hs.at (inb_of S hj) hv) (g := mkF m pc Ls (.int j :: .ref a :: st)) rfl rfl d _ st2, r⟩
theorem g_laload {kx nx : Nat} (cx : Cx Z p s m meth c R kx nx own nm code maxL ret) {a : Addr} {cA : ClassId} {z j : Int32} {vs : List Value} {dv v : Value} (d : Dc code pc .laload 1 pc') (A : Arv Z h a cA .long z vs dv) (hj : ¬ j < 0 ∧ j < z) (hv : vs.getD j.toNatClampNeg dv = v) (H : G p l e R s m args below meth c Z.heap.size Q h k n pc' Ls (v :: st)) : G p l e R s m args below meth c Z.heap.size Q h k n pc Ls (.int j :: .ref a :: st) := by
  obtain ⟨hx, hZ, hown, rfl, hml, hret, hnm, -⟩ := cx
  obtain ⟨d, rfl⟩ := d
  intro T locs cells slots X N eT hk hn
  obtain ⟨cl, Ar, q, S, Nz, Hs, Gf⟩ := A
  obtain ⟨s₂, o, st2, r⟩ := H T _ cells slots X N eT hk hn
  exact ⟨s₂, o, X.laload hx (j := j) (v := v) (by rw [eT]; exact Ar.1) (State.isArrayOf_alike hZ.alike Ar.2.1) Ar.2.2 (inb_of S hj) (Hs.at (inb_of S hj) hv) (g := mkF m pc Ls (.int j :: .ref a :: st)) rfl rfl d _ st2, r⟩
theorem g_caload {kx nx : Nat} (cx : Cx Z p s m meth c R kx nx own nm code maxL ret) {a : Addr} {cA : ClassId} {z j : Int32} {vs : List Value} {dv v : Value} (d : Dc code pc .caload 1 pc') (A : Arv Z h a cA .char z vs dv) (hj : ¬ j < 0 ∧ j < z) (hv : vs.getD j.toNatClampNeg dv = v) (H : G p l e R s m args below meth c Z.heap.size Q h k n pc' Ls (v :: st)) : G p l e R s m args below meth c Z.heap.size Q h k n pc Ls (.int j :: .ref a :: st) := by
  obtain ⟨hx, hZ, hown, rfl, hml, hret, hnm, -⟩ := cx
  obtain ⟨d, rfl⟩ := d
  intro T locs cells slots X N eT hk hn
  obtain ⟨cl, Ar, q, S, Nz, Hs, Gf⟩ := A
  obtain ⟨s₂, o, st2, r⟩ := H T _ cells slots X N eT hk hn
  exact ⟨s₂, o, X.caload hx (j := j) (v := v) (by rw [eT]; exact Ar.1) (State.isArrayOf_alike hZ.alike Ar.2.1) Ar.2.2 (inb_of S hj) (Hs.at (inb_of S hj) hv) (g := mkF m pc Ls (.int j :: .ref a :: st)) rfl rfl d _ st2, r⟩
theorem g_baload {kx nx : Nat} (cx : Cx Z p s m meth c R kx nx own nm code maxL ret) {a : Addr} {cA : ClassId} {z j : Int32} {vs : List Value} {dv v : Value} (d : Dc code pc .baload 1 pc') (A : Arv Z h a cA .byte z vs dv) (hj : ¬ j < 0 ∧ j < z) (hv : vs.getD j.toNatClampNeg dv = v) (H : G p l e R s m args below meth c Z.heap.size Q h k n pc' Ls (v :: st)) : G p l e R s m args below meth c Z.heap.size Q h k n pc Ls (.int j :: .ref a :: st) := by
  obtain ⟨hx, hZ, hown, rfl, hml, hret, hnm, -⟩ := cx
  obtain ⟨d, rfl⟩ := d
  intro T locs cells slots X N eT hk hn
  obtain ⟨cl, Ar, q, S, Nz, Hs, Gf⟩ := A
  obtain ⟨s₂, o, st2, r⟩ := H T _ cells slots X N eT hk hn
  exact ⟨s₂, o, X.baloadBytes hx (j := j) (v := v) (by rw [eT]; exact Ar.1) (State.isArrayOf_alike hZ.alike Ar.2.1) Ar.2.2 (inb_of S hj) (Hs.at (inb_of S hj) hv) (g := mkF m pc Ls (.int j :: .ref a :: st)) rfl rfl d _ st2, r⟩
theorem g_aaload {kx nx : Nat} (cx : Cx Z p s m meth c R kx nx own nm code maxL ret) {a : Addr} {cA : ClassId} {z j : Int32} {vs : List Value} {dv v : Value} {ty : FieldType} (d : Dc code pc .aaload 1 pc') (A : Arv Z h a cA ty z vs dv) (hty : ty.isReference = true) (hj : ¬ j < 0 ∧ j < z) (hv : vs.getD j.toNatClampNeg dv = v) (H : G p l e R s m args below meth c Z.heap.size Q h k n pc' Ls (v :: st)) : G p l e R s m args below meth c Z.heap.size Q h k n pc Ls (.int j :: .ref a :: st) := by
  obtain ⟨hx, hZ, hown, rfl, hml, hret, hnm, -⟩ := cx
  obtain ⟨d, rfl⟩ := d
  intro T locs cells slots X N eT hk hn
  obtain ⟨cl, Ar, q, S, Nz, Hs, Gf⟩ := A
  obtain ⟨s₂, o, st2, r⟩ := H T _ cells slots X N eT hk hn
  exact ⟨s₂, o, X.aaload hx (j := j) (v := v) (by rw [eT]; exact Ar.1) (State.isArrayOf_alike hZ.alike Ar.2.1) hty Ar.2.2 (inb_of S hj) (Hs.at (inb_of S hj) hv) (g := mkF m pc Ls (.int j :: .ref a :: st)) rfl rfl d _ st2, r⟩
theorem g_arraylength {kx nx : Nat} (cx : Cx Z p s m meth c R kx nx own nm code maxL ret) {a : Addr} {cA : ClassId} {z : Int32} {vs : List Value} {dv : Value} {ty : FieldType} (d : Dc code pc .arraylength 1 pc') (A : Arv Z h a cA ty z vs dv) (H : G p l e R s m args below meth c Z.heap.size Q h k n pc' Ls (.int z :: st)) : G p l e R s m args below meth c Z.heap.size Q h k n pc Ls (.ref a :: st) := by
  obtain ⟨hx, hZ, hown, rfl, hml, hret, hnm, -⟩ := cx
  obtain ⟨d, rfl⟩ := d
  intro T locs cells slots X N eT hk hn
  obtain ⟨cl, Ar, q, S, Nz, Hs, Gf⟩ := A
  obtain ⟨s₂, o, st2, r⟩ := H T _ cells slots X N eT hk hn
  exact ⟨s₂, o, X.arraylength hx (by rw [eT]; exact Ar.1) (State.isArrayOf_alike hZ.alike Ar.2.1) (g := mkF m pc Ls (.ref a :: st)) rfl rfl d _ (by rw [len_of S Nz]; exact st2), r⟩
theorem g_checkcast {kx nx : Nat} (cx : Cx Z p s m meth c R kx nx own nm code maxL ret) {K : String} {i : Nat} {a : Addr} (d : Dc code pc (.checkcast i) 3 pc') (w : (Jvm.Cond.classLink own i K).before a0 Z = true) (F : Ins Z h a K true) (H : G p l e R s m args below meth c Z.heap.size Q h k n pc' Ls (.ref a :: st)) : G p l e R s m args below meth c Z.heap.size Q h k n pc Ls (.ref a :: st) := by
  obtain ⟨hx, hZ, hown, rfl, hml, hret, hnm, -⟩ := cx
  obtain ⟨d, rfl⟩ := d
  intro T locs cells slots X N eT hk hn
  obtain ⟨T', X', e', stp⟩ := castY X hx hZ hown w eT F (g := mkF m pc Ls (.ref a :: st)) rfl rfl d
  obtain ⟨s₂, o, st2, r⟩ := H T' _ cells slots X' N e' hk hn
  exact ⟨s₂, o, stp _ st2, r⟩
theorem g_instanceY {kx nx : Nat} (cx : Cx Z p s m meth c R kx nx own nm code maxL ret) {K : String} {i : Nat} {a : Addr} (d : Dc code pc (.instanceof i) 3 pc') (w : (Jvm.Cond.classLink own i K).before a0 Z = true) (F : Ins Z h a K true) (H : G p l e R s m args below meth c Z.heap.size Q h k n pc' Ls (.int 1 :: st)) : G p l e R s m args below meth c Z.heap.size Q h k n pc Ls (.ref a :: st) := by
  obtain ⟨hx, hZ, hown, rfl, hml, hret, hnm, -⟩ := cx
  obtain ⟨d, rfl⟩ := d
  intro T locs cells slots X N eT hk hn
  obtain ⟨T', X', e', stp⟩ := instY X hx hZ hown w eT F (g := mkF m pc Ls (.ref a :: st)) rfl rfl d
  obtain ⟨s₂, o, st2, r⟩ := H T' _ cells slots X' N e' hk hn
  exact ⟨s₂, o, stp _ st2, r⟩
theorem g_ret {kx nx : Nat} (cx : Cx Z p s m meth c R kx nx own nm code maxL ret) {t : FieldType} {w v : Value} {i : Instr} (d : Dc code pc i 1 pc') (hR : ret = some t)
    (hs : ∀ T locs cells slots, Stand p l e R s m args below meth c T locs cells slots → ∀ fs, (∀ (f : JFrame) (acts : List Action), f.method = m → f.locked = none → f.entered = [] → (doReturn e (T.setTop f) acts (some v)).1 = T.setFrames fs) → Steps p.tables e below (T.setTop (mkF m pc Ls (w :: st))) (T.setFrames fs))
    (hk : k ≤ R.cells) (hn : n ≤ R.slots) (q : Q (some v) h) : G p l e R s m args below meth c Z.heap.size Q h k n pc Ls (w :: st) := by
  obtain ⟨hx, hZ, hown, rfl, hml, rfl, hnm, hlk⟩ := cx
  intro T locs cells slots X N eT hk' hn'
  obtain ⟨fs, hr, hrun, hended, hW, hsame⟩ := X.leave (v := some v) (fun h => by rw [hR] at h; cases h) hlk
  exact ⟨_, _, hs T locs cells slots X fs hr, hrun, hended, _, locs, rfl, ⟨by show Q _ T.heap; rw [eT]; exact q, N⟩, ⟨_, rfl⟩, hW, hsame.mono (by omega) (by omega)⟩
theorem g_retI {kx nx : Nat} (cx : Cx Z p s m meth c R kx nx own nm code maxL ret) {x : Int32} (d : Dc code pc .ireturn 1 pc') (hR : ret = some .int) (hk : k ≤ R.cells) (hn : n ≤ R.slots) (q : Q (some (.int x)) h) : G p l e R s m args below meth c Z.heap.size Q h k n pc Ls (.int x :: st) :=
  g_ret cx (t := .int) d hR (fun T locs cells slots X fs hl => retOut X cx.1 (cx.2.2.2.2.2.1.trans hR) rfl (Or.inl ⟨rfl, Or.inl rfl, _, rfl⟩) (by rw [cx.2.2.2.1]; exact d.1) hl) hk hn q
theorem g_retJ {kx nx : Nat} (cx : Cx Z p s m meth c R kx nx own nm code maxL ret) {x : Int64} (d : Dc code pc .lreturn 1 pc') (hR : ret = some .long) (hk : k ≤ R.cells) (hn : n ≤ R.slots) (q : Q (some (.long x)) h) : G p l e R s m args below meth c Z.heap.size Q h k n pc Ls (.long x :: st) :=
  g_ret cx (t := .long) d hR (fun T locs cells slots X fs hl => retOut X cx.1 (cx.2.2.2.2.2.1.trans hR) rfl (Or.inr (Or.inl ⟨rfl, rfl, _, rfl⟩)) (by rw [cx.2.2.2.1]; exact d.1) hl) hk hn q
theorem g_retN {kx nx : Nat} (cx : Cx Z p s m meth c R kx nx own nm code maxL ret) {x : Int32} {t : FieldType} (d : Dc code pc .ireturn 1 pc') (hR : ret = some t) (ht : t = .boolean ∨ t = .byte ∨ t = .char ∨ t = .short) (hk : k ≤ R.cells) (hn : n ≤ R.slots) (q : Q (some (.int (nar t x))) h) : G p l e R s m args below meth c Z.heap.size Q h k n pc Ls (.int x :: st) :=
  g_ret cx (t := t) d hR (fun T locs cells slots X fs hl => retN X cx.1 (cx.2.2.2.2.2.1.trans hR) ht (by rw [cx.2.2.2.1]; exact d.1) hl) hk hn q
theorem g_retZ {kx nx : Nat} (cx : Cx Z p s m meth c R kx nx own nm code maxL ret) {x : Int32} (d : Dc code pc .ireturn 1 pc') (hR : ret = some .boolean) (hx01 : nar .boolean x = x) (hk : k ≤ R.cells) (hn : n ≤ R.slots) (q : Q (some (.int x)) h) : G p l e R s m args below meth c Z.heap.size Q h k n pc Ls (.int x :: st) :=
  g_retN cx d hR (Or.inl rfl) hk hn (by rw [hx01]; exact q)
theorem g_retA {kx nx : Nat} (cx : Cx Z p s m meth c R kx nx own nm code maxL ret) {w : Value} {t : FieldType} (d : Dc code pc .areturn 1 pc') (hR : ret = some t) (ht : t.isReference = true) (hw : w.isRef = true) (hnar : narrow t w = w) (hk : k ≤ R.cells) (hn : n ≤ R.slots) (q : Q (some w) h) : G p l e R s m args below meth c Z.heap.size Q h k n pc Ls (w :: st) :=
  g_ret cx (t := t) d hR (fun T locs cells slots X fs hl => retOut X cx.1 (cx.2.2.2.2.2.1.trans hR) hnar (Or.inr (Or.inr (Or.inr (Or.inr ⟨rfl, ht, hw⟩)))) (by rw [cx.2.2.2.1]; exact d.1) hl) hk hn q
theorem g_retV {kx nx : Nat} (cx : Cx Z p s m meth c R kx nx own nm code maxL ret) (d : Dc code pc .return_ 1 pc') (hR : ret = none) (hk : k ≤ R.cells) (hn : n ≤ R.slots) (q : Q none h) : G p l e R s m args below meth c Z.heap.size Q h k n pc Ls [] := by
  obtain ⟨hx, hZ, hown, rfl, hml, rfl, hnm, hlk⟩ := cx
  intro T locs cells slots X N eT hk' hn'
  obtain ⟨fs, hr, hrun, hended, hW, hsame⟩ := X.leave (v := none) (fun _ => rfl) hlk
  exact ⟨_, _, X.returnOut hx hR d.1 hr, hrun, hended, _, locs, rfl, ⟨by show Q _ T.heap; rw [eT]; exact q, N⟩, ⟨_, rfl⟩, hW, hsame.mono (by omega) (by omega)⟩
theorem g_initO {kx nx : Nat} (cx : Cx Z p s m meth c R kx nx own nm code maxL ret) {i W : Nat} {a : Addr} (d : Dc code pc (.invokespecial i) 3 pc') (w1 : (Jvm.Cond.methodLink own i Lib.objectInit).before a0 Z = true) (w2 : (Jvm.Cond.instanceMethod Lib.objectInit).before a0 Z = true) (w3 : (Jvm.Cond.code Lib.objectInit ⟨#[0xb1]⟩ 1 none).before a0 Z = true) (hsz : Ls.size = maxL) (hf : 1 ≤ R.frames) (hW : (st.map fun v => v.category).sum ≤ W) (hl : W + 12 ≤ R.locals)
    (H : G p l e R s m args below meth c Z.heap.size Q h k n pc' Ls st) : G p l e R s m args below meth c Z.heap.size Q h k n pc Ls (.ref a :: st) := by
  obtain ⟨hx, hZ, hown, rfl, hml, hret, hnm, -⟩ := cx
  obtain ⟨d, rfl⟩ := d
  intro T locs cells slots X N eT hk hn
  obtain ⟨T', X', e', stp⟩ := initO X hx hZ hown w1 w2 w3 eT (g := mkF m pc Ls (.ref a :: st)) rfl (by rw [hml]; exact hsz) rfl d hf (W := W) (by show 2 * 0 + _ ≤ _; omega) hl
  obtain ⟨s₂, o, st2, r⟩ := H T' locs cells slots X' N e' hk hn
  exact ⟨s₂, o, stp _ st2, r⟩
theorem own_dummy : True := trivial
theorem g_static {kx nx : Nat} (cx : Cx Z p s m meth c R kx nx own nm code maxL ret) {i W k' n' maxL' : Nat} {bytes : ByteArray} {ret' : Option FieldType} {rm : Room} {argsL : List Value} {Q' : Option Value → Heap → Prop} {y : MethodName} (d : Dc code pc (.invokestatic i) 3 pc') (w1 : (Jvm.Cond.methodLink own i y).before a0 Z = true) (w2 : (Jvm.Cond.static y).before a0 Z = true) (w3 : (Jvm.Cond.initialized y.cls).before a0 Z = true) (w4 : (Jvm.Cond.code y bytes maxL' ret').before a0 Z = true) (hy : y.cls ≠ "java/lang/invoke/MethodHandle" ∧ y.cls ≠ "java/lang/invoke/VarHandle") (M : Met l Z y bytes maxL' ret' rm argsL.toArray h Q') (hsz : Ls.size = maxL) (hlen : ∀ sig, parseMethodDescriptor y.desc = some sig → argsL.length = sig.parameters.length) (hf : rm.frames + 1 ≤ R.frames) (hW : (rest.map fun v => v.category).sum ≤ W) (hl : W + (maxL' + 11) + rm.locals ≤ R.locals) (hk1 : k + rm.cells = k') (hn1 : n + rm.slots = n') (hkR : k' ≤ R.cells) (hnR : n' ≤ R.slots)
    (hst : st = argsL.reverse ++ rest) (H : ∀ v h', Q' v h' → G p l e R s m args below meth c Z.heap.size Q h' k' n' pc' Ls (v.toList ++ rest)) : G p l e R s m args below meth c Z.heap.size Q h k n pc Ls st := by
  obtain ⟨hx, hZ, hown, rfl, hml, hret, hnm, -⟩ := cx
  obtain ⟨d, rfl⟩ := d
  subst hk1 hn1 hst
  intro T locs cells slots X N eT hk hn
  obtain ⟨v, _, ⟨T', L', k1', n1'⟩, -, X', ⟨Lc, hQ, l1, l2, l3⟩, stp⟩ := Jvm.LawKit.callS X hx (y := y) hown (mvT hZ w1) (mvT hZ w2) (mvT hZ w3) (mvT hZ w4) hy (backOf (W := W) (Q := fun v h L => Q' v h ∧ Fr Z.heap.size L) (M []) hZ w4 w3 hf hl) (g := mkF m pc Ls (argsL.reverse ++ rest)) rfl (by rw [hml]; exact hsz)  (argsL := argsL) (rest := rest) hlen rfl (by show 2 * 0 + _ ≤ _; omega) d (fun _ _ => ⟨rfl, eT, (by show cells + rm.cells ≤ _; omega), (by show slots + rm.slots ≤ _; omega)⟩)
  dsimp only [Pt.U, Pt.locs, Pt.cells, Pt.slots] at X' l1 l2 l3 stp hQ
  subst l1 l2 l3
  obtain ⟨s₂, o, st2, r⟩ := H v T'.heap hQ.1 T' _ _ _ X' (Fr.app N hQ.2) rfl (by omega) (by omega)
  exact ⟨s₂, o, stp _ st2, r⟩
theorem g_special {kx nx : Nat} (cx : Cx Z p s m meth c R kx nx own nm code maxL ret) {i W k' n' maxL' : Nat} {bytes : ByteArray} {ret' : Option FieldType} {rm : Room} {argsL : List Value} {Q' : Option Value → Heap → Prop} {y : MethodName} {a : Addr} (d : Dc code pc (.invokespecial i) 3 pc') (hyn : y.name = "<init>") (hr0 : ret' = none) (w1 : (Jvm.Cond.methodLink own i y).before a0 Z = true) (w2 : (Jvm.Cond.instanceMethod y).before a0 Z = true) (w3 : (Jvm.Cond.initialized y.cls).before a0 Z = true) (w4 : (Jvm.Cond.code y bytes maxL' ret').before a0 Z = true) (hy : y.cls ≠ "java/lang/invoke/MethodHandle" ∧ y.cls ≠ "java/lang/invoke/VarHandle") (M : Met l Z y bytes maxL' ret' rm (.ref a :: argsL).toArray h Q') (hsz : Ls.size = maxL) (hlen : ∀ sig, parseMethodDescriptor y.desc = some sig → argsL.length = sig.parameters.length) (hf : rm.frames + 1 ≤ R.frames) (hW : (rest.map fun v => v.category).sum ≤ W) (hl : W + (maxL' + 11) + rm.locals ≤ R.locals) (hk1 : k + rm.cells = k') (hn1 : n + rm.slots = n') (hkR : k' ≤ R.cells) (hnR : n' ≤ R.slots)
    (hst : st = argsL.reverse ++ .ref a :: rest) (H : ∀ v h', Q' v h' → G p l e R s m args below meth c Z.heap.size Q h' k' n' pc' Ls (v.toList ++ rest)) : G p l e R s m args below meth c Z.heap.size Q h k n pc Ls st := by
  obtain ⟨hx, hZ, hown, rfl, hml, hret, hnm, -⟩ := cx
  obtain ⟨d, rfl⟩ := d
  subst hk1 hn1 hst
  intro T locs cells slots X N eT hk hn
  subst hr0
  obtain ⟨v, _, ⟨T', L', k1', n1'⟩, -, X', ⟨Lc, hQ, l1, l2, l3⟩, stp⟩ := X.specialBack hx (y := y) hyn hown (mvT hZ w1) (mvT hZ w2) (mvT hZ w4) hy (backOf (W := W) (Q := fun v h L => Q' v h ∧ Fr Z.heap.size L) (M []) hZ w4 w3 hf hl) (g := mkF m pc Ls (argsL.reverse ++ .ref a :: rest)) rfl (by rw [hml]; exact hsz) (Steps.refl _) (a := a) (argsL := argsL) (rest := rest) hlen rfl (by show 2 * 0 + _ ≤ _; omega) d (fun _ _ => ⟨rfl, eT, (by show cells + rm.cells ≤ _; omega), (by show slots + rm.slots ≤ _; omega)⟩)
  dsimp only [Pt.U, Pt.locs, Pt.cells, Pt.slots] at X' l1 l2 l3 stp hQ
  subst l1 l2 l3
  obtain ⟨s₂, o, st2, r⟩ := H v T'.heap hQ.1 T' _ _ _ X' (Fr.app N hQ.2) rfl (by omega) (by omega)
  exact ⟨s₂, o, stp.trans st2, r⟩
theorem g_virtual {kx nx : Nat} (cx : Cx Z p s m meth c R kx nx own nm code maxL ret) {i W k' n' maxL' : Nat} {bytes : ByteArray} {ret' : Option FieldType} {rm : Room} {argsL : List Value} {Q' : Option Value → Heap → Prop} {y z : MethodName} {a : Addr} {C : String} (d : Dc code pc (.invokevirtual i) 3 pc') (w1 : (Jvm.Cond.methodLink own i y).before a0 Z = true) (w2 : (Jvm.Cond.declares y).before a0 Z = true) (w3 : (Jvm.Cond.initialized z.cls).before a0 Z = true) (w4 : (Jvm.Cond.code z bytes maxL' ret').before a0 Z = true) (w5 : (Jvm.Cond.selects C y z).before a0 Z = true) (w6 : (Jvm.Cond.instanceMethod z).before a0 Z = true) (hnf : y = z) (hy : y.cls ≠ "java/lang/invoke/MethodHandle" ∧ y.cls ≠ "java/lang/invoke/VarHandle") (E : Exa Z h a C) (M : Met l Z z bytes maxL' ret' rm (.ref a :: argsL).toArray h Q') (hsz : Ls.size = maxL) (hlen : ∀ sig, parseMethodDescriptor y.desc = some sig → argsL.length = sig.parameters.length) (hf : rm.frames + 1 ≤ R.frames) (hW : (rest.map fun v => v.category).sum ≤ W) (hl : W + (maxL' + 11) + rm.locals ≤ R.locals) (hk1 : k + rm.cells = k') (hn1 : n + rm.slots = n') (hkR : k' ≤ R.cells) (hnR : n' ≤ R.slots)
    (hst : st = argsL.reverse ++ .ref a :: rest) (H : ∀ v h', Q' v h' → G p l e R s m args below meth c Z.heap.size Q h' k' n' pc' Ls (v.toList ++ rest)) : G p l e R s m args below meth c Z.heap.size Q h k n pc Ls st := by
  obtain ⟨hx, hZ, hown, rfl, hml, hret, hnm, -⟩ := cx
  obtain ⟨d, rfl⟩ := d
  subst hk1 hn1 hst
  intro T locs cells slots X N eT hk hn
  subst hnf
  obtain ⟨cq, kq, q1, q2, q3⟩ := isOf hZ eT E
  obtain ⟨v, _, ⟨T', L', k1', n1'⟩, -, X', ⟨Lc, hQ, l1, l2, l3⟩, stp⟩ := X.virtualBack hx (y := y) (z := y) hown (mvT hZ w1) (mvT hZ w2) (notFace_of_selects (args := #[]) (mvT hZ w5)) (mvT hZ w5) (mvT hZ w6) hy (backOf (W := W) (Q := fun v h L => Q' v h ∧ Fr Z.heap.size L) (M []) hZ w4 w3 hf hl) q1 q3 (g := mkF m pc Ls (argsL.reverse ++ .ref a :: rest)) rfl (by rw [hml]; exact hsz) (Steps.refl _) (argsL := argsL) (rest := rest) hlen rfl (by show 2 * 0 + _ ≤ _; omega) d (fun _ _ => ⟨rfl, eT, (by show cells + rm.cells ≤ _; omega), (by show slots + rm.slots ≤ _; omega)⟩)
  dsimp only [Pt.U, Pt.locs, Pt.cells, Pt.slots] at X' l1 l2 l3 stp hQ
  subst l1 l2 l3
  obtain ⟨s₂, o, st2, r⟩ := H v T'.heap hQ.1 T' _ _ _ X' (Fr.app N hQ.2) rfl (by omega) (by omega)
  exact ⟨s₂, o, stp.trans st2, r⟩
theorem g_private {kx nx : Nat} (cx : Cx Z p s m meth c R kx nx own nm code maxL ret) {i W k' n' maxL' : Nat} {bytes : ByteArray} {ret' : Option FieldType} {rm : Room} {argsL : List Value} {Q' : Option Value → Heap → Prop} {y : MethodName} {a : Addr} (d : Dc code pc (.invokevirtual i) 3 pc') (w1 : (Jvm.Cond.methodLink own i y).before a0 Z = true) (w2 : (Jvm.Cond.instanceMethod y).before a0 Z = true) (w3 : (Jvm.Cond.initialized y.cls).before a0 Z = true) (w4 : (Jvm.Cond.code y bytes maxL' ret').before a0 Z = true) (w5 : (Jvm.Cond.selects y.cls y y).before a0 Z = true) (w6 : (Jvm.Cond.privateMethod y).before a0 Z = true) (hy : y.cls ≠ "java/lang/invoke/MethodHandle" ∧ y.cls ≠ "java/lang/invoke/VarHandle") {C : String} (E : Exa Z h a C) (M : Met l Z y bytes maxL' ret' rm (.ref a :: argsL).toArray h Q') (hsz : Ls.size = maxL) (hlen : ∀ sig, parseMethodDescriptor y.desc = some sig → argsL.length = sig.parameters.length) (hf : rm.frames + 1 ≤ R.frames) (hW : (rest.map fun v => v.category).sum ≤ W) (hl : W + (maxL' + 11) + rm.locals ≤ R.locals) (hk1 : k + rm.cells = k') (hn1 : n + rm.slots = n') (hkR : k' ≤ R.cells) (hnR : n' ≤ R.slots)
    (hst : st = argsL.reverse ++ .ref a :: rest) (H : ∀ v h', Q' v h' → G p l e R s m args below meth c Z.heap.size Q h' k' n' pc' Ls (v.toList ++ rest)) : G p l e R s m args below meth c Z.heap.size Q h k n pc Ls st := by
  obtain ⟨hx, hZ, hown, rfl, hml, hret, hnm, -⟩ := cx
  obtain ⟨d, rfl⟩ := d
  subst hk1 hn1 hst
  intro T locs cells slots X N eT hk hn
  obtain ⟨cq, q1, q2⟩ := E.cell
  obtain ⟨v, _, ⟨T', L', k1', n1'⟩, -, X', ⟨Lc, hQ, l1, l2, l3⟩, stp⟩ := X.privateBack hx (y := y) hown (mvT hZ w1) (mvT hZ w2) (mvT hZ w5) (Cond.privateMethod_at (mvP hZ w6 (args := #[]))) (mvT hZ w4) hy (backOf (W := W) (Q := fun v h L => Q' v h ∧ Fr Z.heap.size L) (M []) hZ w4 w3 hf hl) (g := mkF m pc Ls (argsL.reverse ++ .ref a :: rest)) rfl (by rw [hml]; exact hsz) (Steps.refl _) (a := a) (by rw [eT]; exact q1) q2 (argsL := argsL) (rest := rest) hlen rfl (by show 2 * 0 + _ ≤ _; omega) d (fun _ _ => ⟨rfl, eT, (by show cells + rm.cells ≤ _; omega), (by show slots + rm.slots ≤ _; omega)⟩)
  dsimp only [Pt.U, Pt.locs, Pt.cells, Pt.slots] at X' l1 l2 l3 stp hQ
  subst l1 l2 l3
  obtain ⟨s₂, o, st2, r⟩ := H v T'.heap hQ.1 T' _ _ _ X' (Fr.app N hQ.2) rfl (by omega) (by omega)
  exact ⟨s₂, o, stp.trans st2, r⟩
theorem g_virtualUp {kx nx : Nat} (cx : Cx Z p s m meth c R kx nx own nm code maxL ret) {i W k' n' maxL' : Nat} {bytes : ByteArray} {ret' : Option FieldType} {rm : Room} {argsL : List Value} {Q' : Option Value → Heap → Prop} {x y : MethodName} {a : Addr} {C owner : String} (d : Dc code pc (.invokevirtual i) 3 pc') (w1 : (Jvm.Cond.methodLink own i x).before a0 Z = true) (w0 : (Jvm.Cond.sameMethod x.cls owner x.name x.desc).before a0 Z = true) (w2 : (Jvm.Cond.declares ⟨owner, x.name, x.desc⟩).before a0 Z = true) (w3 : (Jvm.Cond.initialized y.cls).before a0 Z = true) (w4 : (Jvm.Cond.code y bytes maxL' ret').before a0 Z = true) (w5 : (Jvm.Cond.selects C x y).before a0 Z = true) (w6 : (Jvm.Cond.instanceMethod y).before a0 Z = true) (hy : owner ≠ "java/lang/invoke/MethodHandle" ∧ owner ≠ "java/lang/invoke/VarHandle") (E : Exa Z h a C) (M : Met l Z y bytes maxL' ret' rm (.ref a :: argsL).toArray h Q') (hsz : Ls.size = maxL) (hlen : ∀ sig, parseMethodDescriptor x.desc = some sig → argsL.length = sig.parameters.length) (hf : rm.frames + 1 ≤ R.frames) (hW : (rest.map fun v => v.category).sum ≤ W) (hl : W + (maxL' + 11) + rm.locals ≤ R.locals) (hk1 : k + rm.cells = k') (hn1 : n + rm.slots = n') (hkR : k' ≤ R.cells) (hnR : n' ≤ R.slots)
    (hst : st = argsL.reverse ++ .ref a :: rest) (H : ∀ v h', Q' v h' → G p l e R s m args below meth c Z.heap.size Q h' k' n' pc' Ls (v.toList ++ rest)) : G p l e R s m args below meth c Z.heap.size Q h k n pc Ls st := by
  obtain ⟨hx, hZ, hown, rfl, hml, hret, hnm, -⟩ := cx
  obtain ⟨d, rfl⟩ := d
  subst hk1 hn1 hst
  intro T locs cells slots X N eT hk hn
  obtain ⟨cq, kq, q1, q2, q3⟩ := isOf hZ eT E
  obtain ⟨v, _, ⟨T', L', k1', n1'⟩, -, X', ⟨Lc, hQ, l1, l2, l3⟩, stp⟩ := X.virtualBackUp hx (x := x) (y := y) hown (mvT hZ w1) (mvT hZ w0) (mvT hZ w2) hy (mvT hZ w5) (mvT hZ w6) (backOf (W := W) (Q := fun v h L => Q' v h ∧ Fr Z.heap.size L) (M []) hZ w4 w3 hf hl) q1 q3 (g := mkF m pc Ls (argsL.reverse ++ .ref a :: rest)) rfl (by rw [hml]; exact hsz) (Steps.refl _) (argsL := argsL) (rest := rest) hlen rfl (by show 2 * 0 + _ ≤ _; omega) d (fun _ _ => ⟨rfl, eT, (by show cells + rm.cells ≤ _; omega), (by show slots + rm.slots ≤ _; omega)⟩)
  dsimp only [Pt.U, Pt.locs, Pt.cells, Pt.slots] at X' l1 l2 l3 stp hQ
  subst l1 l2 l3
  obtain ⟨s₂, o, st2, r⟩ := H v T'.heap hQ.1 T' _ _ _ X' (Fr.app N hQ.2) rfl (by omega) (by omega)
  exact ⟨s₂, o, stp.trans st2, r⟩
theorem specialRef {T : State} {locs : List Loc} {cells slots : Nat} (X : Stand p l e R s m args below meth c T locs cells slots) (hexec : p.tables.exec = Jvm.exec) (hZ : Z.Warmed39 s.vm) {index : Nat} {y : MethodName} (hy1 : y.name = "<init>") (hown : s.vm.findClass own = some m.cls)
    (href : (Jvm.Cond.methodRef own index y).before a0 Z = true) (hinst : (Jvm.Cond.instanceMethod y).before a0 Z = true) {bytes : ByteArray} {mL : Nat} (hcode : (Jvm.Cond.code y bytes mL none).before a0 Z = true) (hy : y.cls ≠ "java/lang/invoke/MethodHandle" ∧ y.cls ≠ "java/lang/invoke/VarHandle")
    {W : Nat} {Pre : Pt → Array Value → Prop} {Post : Pt → Array Value → Option Value → Pt → Prop} (hK : Back l R p e below s args y 3 W Pre Post)
    {g : JFrame} (hg : g.method = m) (hsize : g.locals.size = c.maxLocals) {a : Addr} {argsL rest : List Value}
    (hlen : ∀ sig, parseMethodDescriptor y.desc = some sig → argsL.length = sig.parameters.length) (hstack : g.stack = argsL.reverse ++ .ref a :: rest) (hW : 2 * g.monitorRoom + (rest.map fun v => v.category).sum ≤ W)
    (hdg : decode c.code g.pc = .ok (.invokespecial index, 3)) (hpre : Pre ⟨T, locs, cells, slots⟩ (.ref a :: argsL).toArray) :
    ∃ (v : Option Value) (B : Pt), Stand p l e R s m args below meth c B.U B.locs B.cells B.slots ∧ Post ⟨T, locs, cells, slots⟩ (.ref a :: argsL).toArray v B ∧
      Steps p.tables e below (T.setTop g) (B.U.setTop { g with pc := g.pc + 3, stack := v.toList ++ rest }) := by
  have hZT : Z.Warmed39 T.vm := wtrans hZ X.warmed
  have hinst' : (Jvm.Cond.instanceMethod y).before args s = true := mvT hZ hinst
  have hcode' : (Jvm.Cond.code y bytes mL none).before args s = true := mvT hZ hcode
  obtain ⟨obj, methO, hnO, hmO, hstO, habO⟩ := Cond.instanceMethod_spec hinst'
  obtain ⟨methO', cO, hmO', hcO, hbO, hlO, -, hlockO, -, hsigO⟩ := Cond.code_spec hnO hcode'
  cases hmO.symm.trans hmO'
  obtain ⟨kO, hkO, hnameO⟩ := className_of_methodNamed hnO
  obtain ⟨hnameMO, hdescO⟩ := name_of_methodNamed hnO hmO
  obtain ⟨objZ, _, hnZ, -⟩ := Cond.instanceMethod_spec hinst
  have hr : (Jvm.Cond.methodRef own index y).before a0 (Z.setVm T.vm) = true := Cond.methodRef_warmed39 hZT hnZ hy href
  have hownT : (Z.setVm T.vm).vm.findClass own = some m.cls := by show T.vm.findClass own = _; rw [X.warmed.alike.findClass]; exact hown
  obtain ⟨m', c', hm', hready, hfind, hnamed⟩ := Cond.methodRef_named e hownT hr
  have hf0 : s.methodFound? y.cls y.name y.desc = some obj := State.methodFound?_of_named hnO hy
  have hf1 : (s.setVm T.vm).methodFound? y.cls y.name y.desc = some obj := (State.methodFound?_setVm_of_named X.warmed.alike hnO hy).trans hf0
  have hf2 : (Z.setVm T.vm).methodFound? y.cls y.name y.desc = some obj := hf1
  cases hf2.symm.trans hm'
  have hcc : c' = obj.cls := by
    have h1 : T.vm.findClass y.cls = some c' := hfind
    rw [X.warmed.alike.findClass, findClass_of_methodNamed hnO] at h1
    exact (Option.some.inj h1).symm
  subst hcc
  obtain ⟨kO₂, hkO₂, heO₂⟩ := X.warmed.alike.2.2 _ _ hkO
  have hmO₂ : T.vm.method? obj = some methO := by rw [X.warmed.alike.method?]; exact hmO
  have hfound : lookupSpecial T.vm obj.cls "<init>" methO.desc = .method obj := by
    rw [X.warmed.alike.lookupSpecial, hdescO, ← hy1]; exact lookupSpecial_of_named hnO hmO hstO
  obtain ⟨v, B, X', hpost, hsteps⟩ := hK m meth c ⟨T, locs, cells, slots⟩ { g with stack := rest } (.invokespecial index) obj (.ref a :: argsL).toArray X hg hsize hdg hW (X.named hnO) hpre
  refine ⟨v, B, X', hpost, Steps.trans ?_ hsteps⟩
  subst hg
  jvm_step X.here [hexec, hdg, invokespecial.wp_init (e := e) (s := T) (k := kO₂) (meth := methO) (m := obj) (a := a) (args := argsL) (rest := rest) (f := g) X.here.top hnamed hready hkO₂ hmO₂ (by rw [hnameMO]; exact hy1) hstO habO hfound (hlen _ hsigO) hstack]
  intro acts
  rw [doInvoke_state]
  exact Steps.refl _
theorem g_specialRef {kx nx : Nat} (cx : Cx Z p s m meth c R kx nx own nm code maxL ret) {i W k' n' maxL' : Nat} {bytes : ByteArray} {ret' : Option FieldType} {rm : Room} {argsL : List Value} {Q' : Option Value → Heap → Prop} {y : MethodName} {a : Addr} (d : Dc code pc (.invokespecial i) 3 pc') (hyn : y.name = "<init>") (hr0 : ret' = none) (w1 : (Jvm.Cond.methodRef own i y).before a0 Z = true) (w2 : (Jvm.Cond.instanceMethod y).before a0 Z = true) (w3 : (Jvm.Cond.initialized y.cls).before a0 Z = true) (w4 : (Jvm.Cond.code y bytes maxL' ret').before a0 Z = true) (hy : y.cls ≠ "java/lang/invoke/MethodHandle" ∧ y.cls ≠ "java/lang/invoke/VarHandle") (M : Met l Z y bytes maxL' ret' rm (.ref a :: argsL).toArray h Q') (hsz : Ls.size = maxL) (hlen : ∀ sig, parseMethodDescriptor y.desc = some sig → argsL.length = sig.parameters.length) (hf : rm.frames + 1 ≤ R.frames) (hW : (rest.map fun v => v.category).sum ≤ W) (hl : W + (maxL' + 11) + rm.locals ≤ R.locals) (hk1 : k + rm.cells = k') (hn1 : n + rm.slots = n') (hkR : k' ≤ R.cells) (hnR : n' ≤ R.slots)
    (hst : st = argsL.reverse ++ .ref a :: rest) (H : ∀ v h', Q' v h' → G p l e R s m args below meth c Z.heap.size Q h' k' n' pc' Ls (v.toList ++ rest)) : G p l e R s m args below meth c Z.heap.size Q h k n pc Ls st := by
  obtain ⟨hx, hZ, hown, rfl, hml, hret, hnm, -⟩ := cx
  obtain ⟨d, rfl⟩ := d
  subst hk1 hn1 hst
  intro T locs cells slots X N eT hk hn
  subst hr0
  obtain ⟨v, ⟨T', L', k1', n1'⟩, X', ⟨Lc, hQ, l1, l2, l3⟩, stp⟩ := specialRef X hx hZ (y := y) hyn hown w1 w2 w4 hy (backOf (W := W) (Q := fun v h L => Q' v h ∧ Fr Z.heap.size L) (M []) hZ w4 w3 hf hl) (g := mkF m pc Ls (argsL.reverse ++ .ref a :: rest)) rfl (by rw [hml]; exact hsz) (a := a) (argsL := argsL) (rest := rest) hlen rfl (by show 2 * 0 + _ ≤ _; omega) d ⟨rfl, eT, (by show cells + rm.cells ≤ _; omega), (by show slots + rm.slots ≤ _; omega)⟩
  dsimp only [Pt.U, Pt.locs, Pt.cells, Pt.slots] at X' l1 l2 l3 stp hQ
  subst l1 l2 l3
  obtain ⟨s₂, o, st2, r⟩ := H v T'.heap hQ.1 T' _ _ _ X' (Fr.app N hQ.2) rfl (by omega) (by omega)
  exact ⟨s₂, o, stp.trans st2, r⟩
theorem g_lsw {kx nx : Nat} (cx : Cx Z p s m meth c R kx nx own nm code maxL ret) {x : Int32} {dflt : Int} {pairs : Array (Int × Int)} {len : Nat} (d : decode code pc = .ok (.lookupswitch dflt pairs, len)) (hs : (pairs.toList.zip (pairs.toList.drop 1)).all (fun (a, next) => a.1 < next.1) = true) {off : Int} (hf : ((pairs.find? (·.1 == x.toInt)).map (·.2)).getD dflt = off) (h0 : 0 ≤ (pc : Int) + off) (hp : ((pc : Int) + off).toNat = pc') (H : G p l e R s m args below meth c Z.heap.size Q h k n pc' Ls st) : G p l e R s m args below meth c Z.heap.size Q h k n pc Ls (.int x :: st) := by
  obtain ⟨hx, hZ, hown, rfl, hml, hret, hnm, -⟩ := cx
  subst hp
  intro T locs cells slots X N eT hk hn
  obtain ⟨s₂, o, st2, r⟩ := H T locs cells slots X N eT hk hn
  cases hq : pairs.find? (·.1 == x.toInt) with
  | none =>
    rw [hq] at hf
    have hf' : dflt = off := hf
    subst hf'
    exact ⟨s₂, o, X.lookupswitchMiss hx (g := mkF m pc Ls (.int x :: st)) rfl rfl d hs hq h0 _ st2, r⟩
  | some ao =>
    rw [hq] at hf
    have hf' : ao.2 = off := hf
    subst hf'
    exact ⟨s₂, o, X.lookupswitchHit hx (g := mkF m pc Ls (.int x :: st)) rfl rfl d hs (a := ao.1) (off := ao.2) hq h0 _ st2, r⟩
theorem lsw_miss {x : Int32} {dflt : Int} {pairs : Array (Int × Int)} (q : ∀ a ∈ pairs.toList, a.1 ≠ x.toInt) : ((pairs.find? (·.1 == x.toInt)).map (·.2)).getD dflt = dflt := by rw [find_miss q]; rfl
theorem g_aaloadR {kx nx : Nat} (cx : Cx Z p s m meth c R kx nx own nm code maxL ret) {a : Addr} {cl : Cell} {j : Int32} {v : Value} {ty : FieldType} (d : Dc code pc .aaload 1 pc') (A : Arr Z h a cl ty) (hty : ty.isReference = true) (hj : ¬ (j < 0 ∨ cl.slots.size ≤ j.toNatClampNeg)) (hv : cl.slots[j.toNatClampNeg]? = some v) (H : G p l e R s m args below meth c Z.heap.size Q h k n pc' Ls (v :: st)) : G p l e R s m args below meth c Z.heap.size Q h k n pc Ls (.int j :: .ref a :: st) := by
  obtain ⟨hx, hZ, hown, rfl, hml, hret, hnm, -⟩ := cx
  obtain ⟨d, rfl⟩ := d
  intro T locs cells slots X N eT hk hn
  obtain ⟨s₂, o, st2, r⟩ := H T _ cells slots X N eT hk hn
  exact ⟨s₂, o, X.aaload hx (j := j) (v := v) (by rw [eT]; exact A.1) (State.isArrayOf_alike hZ.alike A.2.1) hty A.2.2 hj hv (g := mkF m pc Ls (.int j :: .ref a :: st)) rfl rfl d _ st2, r⟩
theorem arr_len {t : Term} {a : Addr} {cl : Cell} {ty : FieldType} {z : Int32} (ev : t.eval args Z none [] Z = some (.ref a)) (A : Arr Z Z.heap a cl ty) (h3 : (Jvm.Cond.eq (.length t) (.int z)).value args Z none Z [] = some true) : cl.slots.size < 2 ^ 31 ∧ cl.slots.size.toInt32 = z := by
  have ex := eqv_i (F := .int z) rfl h3
  have A1 := A.fin (Vm.Alike.refl _)
  have hl : cl.slots.size < 2 ^ 31 := by
    refine Decidable.byContradiction fun hc => ?_
    simp [Term.eval, ev, A1, hc] at ex
  rw [len_f ev A1 hl] at ex
  exact ⟨hl, by simpa using ex⟩
theorem sta_arr {C f d : String} {ty : FieldType} {z : Int32} (hi : (Jvm.Cond.initializedFor C f d).before args Z = true ∨ ((Jvm.Cond.initialized C).before args Z = true ∧ (Jvm.Cond.laysStatic C f d).before args Z = true)) (h1 : (Jvm.Cond.arrayOf (.static C f d) ty).value args Z none Z [] = some true) (h3 : (Jvm.Cond.eq (.length (.static C f d)) (.int z)).value args Z none Z [] = some true) :
    ∃ a cl, Sta Z Z.heap C f d (.ref a) ∧ (Term.static C f d).eval args Z none [] Z = some (.ref a) ∧ Arr Z Z.heap a cl ty ∧ cl.slots.size < 2 ^ 31 ∧ cl.slots.size.toInt32 = z := by
  obtain ⟨a, ev⟩ := arr_v h1
  obtain ⟨cl, A⟩ := Arr.start ev h1
  obtain ⟨q1, q2⟩ := arr_len ev A h3
  exact ⟨a, cl, Sta.start ev hi, ev, A, q1, q2⟩
theorem fld_exa {t : Term} {C f d K : String} {a : Addr} (ev : t.eval args Z none [] Z = some (.ref a)) (h : (Jvm.Cond.exactly (.field t C f d) K).value args Z none Z [] = some true) : ∃ b, Fld Z Z.heap a C f d (.ref b) ∧ Exa Z Z.heap b K ∧ (Term.field t C f d).eval args Z none [] Z = some (.ref b) := by
  obtain ⟨b, eb⟩ := exa_v h
  exact ⟨b, Fld.start ((fld_at ev).symm.trans eb), Exa.start eb h, eb⟩
theorem fld_arr {t : Term} {C f d : String} {a : Addr} {ty : FieldType} {z : Int32} (ev : t.eval args Z none [] Z = some (.ref a)) (h : (Jvm.Cond.arrayOf (.field t C f d) ty).value args Z none Z [] = some true) (h3 : (Jvm.Cond.eq (.length (.field t C f d)) (.int z)).value args Z none Z [] = some true) : ∃ b cl, Fld Z Z.heap a C f d (.ref b) ∧ (Term.field t C f d).eval args Z none [] Z = some (.ref b) ∧ Arr Z Z.heap b cl ty ∧ cl.slots.size < 2 ^ 31 ∧ cl.slots.size.toInt32 = z := by
  obtain ⟨b, eb⟩ := arr_v h
  obtain ⟨cl, A⟩ := Arr.start eb h
  obtain ⟨q1, q2⟩ := arr_len eb A h3
  exact ⟨b, cl, Fld.start ((fld_at ev).symm.trans eb), eb, A, q1, q2⟩
theorem elem_eq {t : Term} {a : Addr} {cl : Cell} {ty : FieldType} {j v : Int32} (ev : t.eval args Z none [] Z = some (.ref a)) (A : Arr Z Z.heap a cl ty) (h : (Jvm.Cond.eq (.elem t (.int j)) (.int v)).value args Z none Z [] = some true) : cl.slots[j.toNatClampNeg]? = some (.int v) := (elem_in (eqv_i (F := .int v) rfl h) ev rfl A.1).2
theorem nar1 : nar .boolean 1 = 1 := rfl
theorem nar0 : nar .boolean 0 = 0 := rfl
theorem sta_exa {C f d K : String} (hx : (Jvm.Cond.exactly (.static C f d) K).value args Z none Z [] = some true) (wi : (Jvm.Cond.initialized C).before args Z = true) (wl : (Jvm.Cond.laysStatic C f d).before args Z = true) : ∃ a, Sta Z Z.heap C f d (.ref a) ∧ Exa Z Z.heap a K ∧ (Term.static C f d).eval args Z none [] Z = some (.ref a) := by
  obtain ⟨a, ev⟩ := exa_v hx
  exact ⟨a, Sta.start ev (Or.inr ⟨wi, wl⟩), Exa.start ev hx, ev⟩
theorem fld_eq {t : Term} {C f d : String} {a : Addr} {v : Int32} (ev : t.eval args Z none [] Z = some (.ref a)) (h : (Jvm.Cond.eq (.field t C f d) (.int v)).value args Z none Z [] = some true) : Fld Z Z.heap a C f d (.int v) := by
  obtain ⟨x, y, ex, ey, -, k2⟩ := cmp_v (Or.inl h)
  have e2 : y = .int v := by simpa [Term.eval] using ey.symm
  subst e2
  obtain ⟨z, rfl⟩ := k2
  have hz : z = v := by simpa [Cond.value, ex, ey] using h
  subst hz
  rw [fld_at ev] at ex
  exact Fld.start ex
theorem sta_int {C f d : String} (hi : (Jvm.Cond.initializedFor C f d).before args Z = true) (h1 : (Jvm.Cond.isInt (.static C f d)).before args Z = true) : ∃ v, Sta Z Z.heap C f d (.int v) ∧ (Term.static C f d).eval args Z none [] Z = some (.int v) := by
  obtain ⟨v, ev⟩ := is_v (Cond.before_iff.mp h1)
  exact ⟨v, Sta.start ev (Or.inl hi), ev⟩
theorem ne_of_not {t : Term} {z v : Int32} (ev : t.eval args Z none [] Z = some (.int z)) (h : (Jvm.Cond.not (.eq t (.int v))).before args Z = true) : ¬ z = v := by
  have h2 := not_v (Cond.before_iff.mp h)
  intro q
  subst q
  simp [Cond.value, ev, Term.eval] at h2
theorem own_lrem (x y : Int64) (d : Int) (hy : y.toInt = d) : (0 ≤ x.toInt → (x % y).toInt = x.toInt % d) ∧ (x.toInt < 0 → (x % y).toInt = -((-x.toInt) % d)) := by
  rw [← lrem_mod]; exact c_lrem x y d hy
end Walk
def ObB (Z : State) (h : Heap) (a : Addr) (v1 v2 v3 v4 v5 : Value) : Prop := Exa Z h a "com/example/crisp_typedef/crisptypedef/NumberText$Significand" ∧ Fld Z h a "com/example/crisp_typedef/crisptypedef/NumberText$Significand" "negative" "Z" v1 ∧ Fld Z h a "com/example/crisp_typedef/crisptypedef/NumberText$Significand" "first" "I" v2 ∧ Fld Z h a "com/example/crisp_typedef/crisptypedef/NumberText$Significand" "last" "I" v3 ∧ Fld Z h a "com/example/crisp_typedef/crisptypedef/NumberText$Significand" "point" "I" v4 ∧ Fld Z h a "com/example/crisp_typedef/crisptypedef/NumberText$Significand" "power" "J" v5
theorem ObB.ext {h' : Heap} {Z : State} {h : Heap} {a : Addr} {v1 v2 v3 v4 v5 : Value} (F : ObB Z h a v1 v2 v3 v4 v5) (E : Ext h h') : ObB Z h' a v1 v2 v3 v4 v5 := ⟨F.1.ext E, F.2.1.ext E, F.2.2.1.ext E, F.2.2.2.1.ext E, F.2.2.2.2.1.ext E, F.2.2.2.2.2.ext E⟩
theorem ObB.keep {h' : Heap} {Z : State} {h : Heap} {a : Addr} {v1 v2 v3 v4 v5 : Value} {ws : List Addr} (F : ObB Z h a v1 v2 v3 v4 v5) (K : Keep h h' ws) (q : a ∉ ws) : ObB Z h' a v1 v2 v3 v4 v5 := ⟨F.1.keep K, F.2.1.keep K q, F.2.2.1.keep K q, F.2.2.2.1.keep K q, F.2.2.2.2.1.keep K q, F.2.2.2.2.2.keep K q⟩
theorem ObB.oth {x : Addr} {sl : Nat} {w : Value} {h' : Heap} {Z : State} {h : Heap} {a : Addr} {v1 v2 v3 v4 v5 : Value} (F : ObB Z h a v1 v2 v3 v4 v5) (W : Wr h h' x sl w) (q : a ≠ x) : ObB Z h' a v1 v2 v3 v4 v5 := ⟨F.1.wr W, F.2.1.other W (Or.inl q), F.2.2.1.other W (Or.inl q), F.2.2.2.1.other W (Or.inl q), F.2.2.2.2.1.other W (Or.inl q), F.2.2.2.2.2.other W (Or.inl q)⟩
theorem ObB.lt {Z : State} {h : Heap} {a : Addr} {v1 v2 v3 v4 v5 : Value} (F : ObB Z h a v1 v2 v3 v4 v5) : a < h.size := F.1.lt
theorem ObB.put1 {v : Value} {h' : Heap} {Z : State} {h : Heap} {a : Addr} {v1 v2 v3 v4 v5 : Value} {a0 : Array Value} (hw : ∀ d ∈ tables_1, d.before a0 Z = true) (F : ObB Z h a v1 v2 v3 v4 v5) (W : Wr h h' a (Jvm.RoadKit.slotOf Z "com/example/crisp_typedef/crisptypedef/NumberText$Significand" "negative" "Z") v) : ObB Z h' a v v2 v3 v4 v5 := ⟨F.1.wr W, F.2.1.same W, F.2.2.1.other W (Or.inr (slot_ne (Or.inr (hw _ (List.mem_of_getElem? (i := 20) rfl))) (Or.inr (hw _ (List.mem_of_getElem? (i := 18) rfl))) (by decide) (t := .int) (t' := .boolean) (by decide) (by decide))), F.2.2.2.1.other W (Or.inr (slot_ne (Or.inr (hw _ (List.mem_of_getElem? (i := 22) rfl))) (Or.inr (hw _ (List.mem_of_getElem? (i := 18) rfl))) (by decide) (t := .int) (t' := .boolean) (by decide) (by decide))), F.2.2.2.2.1.other W (Or.inr (slot_ne (Or.inr (hw _ (List.mem_of_getElem? (i := 24) rfl))) (Or.inr (hw _ (List.mem_of_getElem? (i := 18) rfl))) (by decide) (t := .int) (t' := .boolean) (by decide) (by decide))), F.2.2.2.2.2.other W (Or.inr (slot_ne (Or.inr (hw _ (List.mem_of_getElem? (i := 26) rfl))) (Or.inr (hw _ (List.mem_of_getElem? (i := 18) rfl))) (by decide) (t := .long) (t' := .boolean) (by decide) (by decide)))⟩
theorem ObB.put2 {v : Value} {h' : Heap} {Z : State} {h : Heap} {a : Addr} {v1 v2 v3 v4 v5 : Value} {a0 : Array Value} (hw : ∀ d ∈ tables_1, d.before a0 Z = true) (F : ObB Z h a v1 v2 v3 v4 v5) (W : Wr h h' a (Jvm.RoadKit.slotOf Z "com/example/crisp_typedef/crisptypedef/NumberText$Significand" "first" "I") v) : ObB Z h' a v1 v v3 v4 v5 := ⟨F.1.wr W, F.2.1.other W (Or.inr (slot_ne (Or.inr (hw _ (List.mem_of_getElem? (i := 18) rfl))) (Or.inr (hw _ (List.mem_of_getElem? (i := 20) rfl))) (by decide) (t := .boolean) (t' := .int) (by decide) (by decide))), F.2.2.1.same W, F.2.2.2.1.other W (Or.inr (slot_ne (Or.inr (hw _ (List.mem_of_getElem? (i := 22) rfl))) (Or.inr (hw _ (List.mem_of_getElem? (i := 20) rfl))) (by decide) (t := .int) (t' := .int) (by decide) (by decide))), F.2.2.2.2.1.other W (Or.inr (slot_ne (Or.inr (hw _ (List.mem_of_getElem? (i := 24) rfl))) (Or.inr (hw _ (List.mem_of_getElem? (i := 20) rfl))) (by decide) (t := .int) (t' := .int) (by decide) (by decide))), F.2.2.2.2.2.other W (Or.inr (slot_ne (Or.inr (hw _ (List.mem_of_getElem? (i := 26) rfl))) (Or.inr (hw _ (List.mem_of_getElem? (i := 20) rfl))) (by decide) (t := .long) (t' := .int) (by decide) (by decide)))⟩
theorem ObB.put3 {v : Value} {h' : Heap} {Z : State} {h : Heap} {a : Addr} {v1 v2 v3 v4 v5 : Value} {a0 : Array Value} (hw : ∀ d ∈ tables_1, d.before a0 Z = true) (F : ObB Z h a v1 v2 v3 v4 v5) (W : Wr h h' a (Jvm.RoadKit.slotOf Z "com/example/crisp_typedef/crisptypedef/NumberText$Significand" "last" "I") v) : ObB Z h' a v1 v2 v v4 v5 := ⟨F.1.wr W, F.2.1.other W (Or.inr (slot_ne (Or.inr (hw _ (List.mem_of_getElem? (i := 18) rfl))) (Or.inr (hw _ (List.mem_of_getElem? (i := 22) rfl))) (by decide) (t := .boolean) (t' := .int) (by decide) (by decide))), F.2.2.1.other W (Or.inr (slot_ne (Or.inr (hw _ (List.mem_of_getElem? (i := 20) rfl))) (Or.inr (hw _ (List.mem_of_getElem? (i := 22) rfl))) (by decide) (t := .int) (t' := .int) (by decide) (by decide))), F.2.2.2.1.same W, F.2.2.2.2.1.other W (Or.inr (slot_ne (Or.inr (hw _ (List.mem_of_getElem? (i := 24) rfl))) (Or.inr (hw _ (List.mem_of_getElem? (i := 22) rfl))) (by decide) (t := .int) (t' := .int) (by decide) (by decide))), F.2.2.2.2.2.other W (Or.inr (slot_ne (Or.inr (hw _ (List.mem_of_getElem? (i := 26) rfl))) (Or.inr (hw _ (List.mem_of_getElem? (i := 22) rfl))) (by decide) (t := .long) (t' := .int) (by decide) (by decide)))⟩
theorem ObB.put4 {v : Value} {h' : Heap} {Z : State} {h : Heap} {a : Addr} {v1 v2 v3 v4 v5 : Value} {a0 : Array Value} (hw : ∀ d ∈ tables_1, d.before a0 Z = true) (F : ObB Z h a v1 v2 v3 v4 v5) (W : Wr h h' a (Jvm.RoadKit.slotOf Z "com/example/crisp_typedef/crisptypedef/NumberText$Significand" "point" "I") v) : ObB Z h' a v1 v2 v3 v v5 := ⟨F.1.wr W, F.2.1.other W (Or.inr (slot_ne (Or.inr (hw _ (List.mem_of_getElem? (i := 18) rfl))) (Or.inr (hw _ (List.mem_of_getElem? (i := 24) rfl))) (by decide) (t := .boolean) (t' := .int) (by decide) (by decide))), F.2.2.1.other W (Or.inr (slot_ne (Or.inr (hw _ (List.mem_of_getElem? (i := 20) rfl))) (Or.inr (hw _ (List.mem_of_getElem? (i := 24) rfl))) (by decide) (t := .int) (t' := .int) (by decide) (by decide))), F.2.2.2.1.other W (Or.inr (slot_ne (Or.inr (hw _ (List.mem_of_getElem? (i := 22) rfl))) (Or.inr (hw _ (List.mem_of_getElem? (i := 24) rfl))) (by decide) (t := .int) (t' := .int) (by decide) (by decide))), F.2.2.2.2.1.same W, F.2.2.2.2.2.other W (Or.inr (slot_ne (Or.inr (hw _ (List.mem_of_getElem? (i := 26) rfl))) (Or.inr (hw _ (List.mem_of_getElem? (i := 24) rfl))) (by decide) (t := .long) (t' := .int) (by decide) (by decide)))⟩
theorem ObB.put5 {v : Value} {h' : Heap} {Z : State} {h : Heap} {a : Addr} {v1 v2 v3 v4 v5 : Value} {a0 : Array Value} (hw : ∀ d ∈ tables_1, d.before a0 Z = true) (F : ObB Z h a v1 v2 v3 v4 v5) (W : Wr h h' a (Jvm.RoadKit.slotOf Z "com/example/crisp_typedef/crisptypedef/NumberText$Significand" "power" "J") v) : ObB Z h' a v1 v2 v3 v4 v := ⟨F.1.wr W, F.2.1.other W (Or.inr (slot_ne (Or.inr (hw _ (List.mem_of_getElem? (i := 18) rfl))) (Or.inr (hw _ (List.mem_of_getElem? (i := 26) rfl))) (by decide) (t := .boolean) (t' := .long) (by decide) (by decide))), F.2.2.1.other W (Or.inr (slot_ne (Or.inr (hw _ (List.mem_of_getElem? (i := 20) rfl))) (Or.inr (hw _ (List.mem_of_getElem? (i := 26) rfl))) (by decide) (t := .int) (t' := .long) (by decide) (by decide))), F.2.2.2.1.other W (Or.inr (slot_ne (Or.inr (hw _ (List.mem_of_getElem? (i := 22) rfl))) (Or.inr (hw _ (List.mem_of_getElem? (i := 26) rfl))) (by decide) (t := .int) (t' := .long) (by decide) (by decide))), F.2.2.2.2.1.other W (Or.inr (slot_ne (Or.inr (hw _ (List.mem_of_getElem? (i := 24) rfl))) (Or.inr (hw _ (List.mem_of_getElem? (i := 26) rfl))) (by decide) (t := .int) (t' := .long) (by decide) (by decide))), F.2.2.2.2.2.same W⟩
theorem ObB.new {Z : State} {h : Heap} {b : Addr} {a0 : Array Value} (hw : ∀ d ∈ tables_1, d.before a0 Z = true) (E : Exa Z h b "com/example/crisp_typedef/crisptypedef/NumberText$Significand") (D : ∀ {O nm d : String} {ty : FieldType}, Laid Z a0 "com/example/crisp_typedef/crisptypedef/NumberText$Significand" O nm d → parseFieldDescriptor d = some ty → Fld Z h b O nm d (defaultValue ty)) : ObB Z h b (.int (0 : Int32)) (.int (0 : Int32)) (.int (0 : Int32)) (.int (0 : Int32)) (.long (0 : Int64)) := ⟨E, D (Or.inr (hw _ (List.mem_of_getElem? (i := 18) rfl))) (ty := .boolean) (by decide), D (Or.inr (hw _ (List.mem_of_getElem? (i := 20) rfl))) (ty := .int) (by decide), D (Or.inr (hw _ (List.mem_of_getElem? (i := 22) rfl))) (ty := .int) (by decide), D (Or.inr (hw _ (List.mem_of_getElem? (i := 24) rfl))) (ty := .int) (by decide), D (Or.inr (hw _ (List.mem_of_getElem? (i := 26) rfl))) (ty := .long) (by decide)⟩
theorem d2_0 : Dc jdk_30_method_1_code 0 (.aload_n 0) 1 1 := ⟨by decide +kernel, rfl⟩
theorem d2_1 : Dc jdk_30_method_1_code 1 (.invokespecial 1) 3 4 := ⟨by decide +kernel, rfl⟩
theorem d2_4 : Dc jdk_30_method_1_code 4 (.return_) 1 5 := ⟨by decide +kernel, rfl⟩
theorem pn_rm1 : plainName "java/lang/Record" = true := by first | (simp [plainName, overriddenIn]; done) | decide +kernel
set_option maxRecDepth 65536 in
set_option maxHeartbeats 40000000 in
theorem rm1 (l : Launch) (Z : State) (a0 : Array Value) (hw : ∀ d ∈ tables_1, d.before a0 Z = true) (a : Addr) (h0 : Heap) :
    Met l Z (⟨"java/lang/Record", "<init>", "()V"⟩ : MethodName) jdk_30_method_1_code 1 none ({ frames := 1, cells := 0, slots := 0, locals := 12 } : Room) #[(.ref a)] h0 (fun v h' => v = none ∧ h0 = h') := by
  refine met_of (Ls := #[.val (.ref a)]) (plainFor_of_name pn_rm1) (fun m => by first | (simp [entryFrame, mkF, argsToLocals, Value.category]; done) | rfl) (fun p e s m below meth c cx => ?_)
  refine g_aloadN cx d2_0 rfl rfl ?_
  refine g_initO cx d2_1 (hw _ (List.mem_of_getElem? (i := 14) rfl)) (hw _ (List.mem_of_getElem? (i := 15) rfl)) (hw _ (List.mem_of_getElem? (i := 16) rfl)) rfl (by decide) (W := 0) (Nat.le_of_eq rfl) (by decide) ?_
  refine g_retV cx d2_4 rfl (by decide) (by decide) ?_
  exact ⟨rfl, rfl⟩
theorem d1_0 : Dc prog_22_method_1_code 0 (.aload_n 0) 1 1 := ⟨by decide +kernel, rfl⟩
theorem pd_0 : parseMethodDescriptor "()V" = some ⟨[], none⟩ := by decide +kernel
theorem d1_1 : Dc prog_22_method_1_code 1 (.invokespecial 1) 3 4 := ⟨by decide +kernel, rfl⟩
theorem d1_4 : Dc prog_22_method_1_code 4 (.aload_n 0) 1 5 := ⟨by decide +kernel, rfl⟩
theorem d1_5 : Dc prog_22_method_1_code 5 (.iload_n 1) 1 6 := ⟨by decide +kernel, rfl⟩
theorem d1_6 : Dc prog_22_method_1_code 6 (.putfield 7) 3 9 := ⟨by decide +kernel, rfl⟩
theorem d1_9 : Dc prog_22_method_1_code 9 (.aload_n 0) 1 10 := ⟨by decide +kernel, rfl⟩
theorem d1_10 : Dc prog_22_method_1_code 10 (.iload_n 2) 1 11 := ⟨by decide +kernel, rfl⟩
theorem d1_11 : Dc prog_22_method_1_code 11 (.putfield 13) 3 14 := ⟨by decide +kernel, rfl⟩
theorem d1_14 : Dc prog_22_method_1_code 14 (.aload_n 0) 1 15 := ⟨by decide +kernel, rfl⟩
theorem d1_15 : Dc prog_22_method_1_code 15 (.iload_n 3) 1 16 := ⟨by decide +kernel, rfl⟩
theorem d1_16 : Dc prog_22_method_1_code 16 (.putfield 17) 3 19 := ⟨by decide +kernel, rfl⟩
theorem d1_19 : Dc prog_22_method_1_code 19 (.aload_n 0) 1 20 := ⟨by decide +kernel, rfl⟩
theorem d1_20 : Dc prog_22_method_1_code 20 (.iload 4) 2 22 := ⟨by decide +kernel, rfl⟩
theorem d1_22 : Dc prog_22_method_1_code 22 (.putfield 20) 3 25 := ⟨by decide +kernel, rfl⟩
theorem d1_25 : Dc prog_22_method_1_code 25 (.aload_n 0) 1 26 := ⟨by decide +kernel, rfl⟩
theorem d1_26 : Dc prog_22_method_1_code 26 (.lload 5) 2 28 := ⟨by decide +kernel, rfl⟩
theorem d1_28 : Dc prog_22_method_1_code 28 (.putfield 23) 3 31 := ⟨by decide +kernel, rfl⟩
theorem d1_31 : Dc prog_22_method_1_code 31 (.return_) 1 32 := ⟨by decide +kernel, rfl⟩
theorem pn_rm2 : plainName "com/example/crisp_typedef/crisptypedef/NumberText$Significand" = true := by first | (simp [plainName, overriddenIn]; done) | decide +kernel
set_option maxRecDepth 65536 in
set_option maxHeartbeats 40000000 in
theorem rm2 (l : Launch) (Z : State) (a0 : Array Value) (hw : ∀ d ∈ tables_1, d.before a0 Z = true) (a : Addr) (y1 : Int32) (y2 : Int32) (y3 : Int32) (y4 : Int32) (y5 : Int64) (h0 : Heap) (O_a : ObB Z h0 a (.int (0 : Int32)) (.int (0 : Int32)) (.int (0 : Int32)) (.int (0 : Int32)) (.long (0 : Int64))) (g_a : Z.heap.size ≤ a) (OL : Old Z Z.heap.size h0) :
    Met l Z (⟨"com/example/crisp_typedef/crisptypedef/NumberText$Significand", "<init>", "(ZIIIJ)V"⟩ : MethodName) prog_22_method_1_code 7 none ({ frames := 2, cells := 0, slots := 0, locals := 24 } : Room) #[(.ref a), (.int y1), (.int y2), (.int y3), (.int y4), (.long y5)] h0 (fun v h' => v = none ∧ Keep h0 h' [a] ∧ ObB Z h' a (.int (nar .boolean y1)) (.int y2) (.int y3) (.int y4) (.long y5)) := by
  refine met_of (Ls := #[.val (.ref a), .val (.int y1), .val (.int y2), .val (.int y3), .val (.int y4), .val (.long y5), .second]) (plainFor_of_name pn_rm2) (fun m => by first | (simp [entryFrame, mkF, argsToLocals, Value.category]; done) | rfl) (fun p e s m below meth c cx => ?_)
  have KK := Keep.refl h0 [a]
  refine g_aloadN cx d1_0 rfl rfl ?_
  refine g_special cx (y := (⟨"java/lang/Record", "<init>", "()V"⟩ : MethodName)) (a := a) d1_1 rfl rfl (hw _ (List.mem_of_getElem? (i := 9) rfl)) (hw _ (List.mem_of_getElem? (i := 10) rfl)) (hw _ (List.mem_of_getElem? (i := 12) rfl)) (hw _ (List.mem_of_getElem? (i := 13) rfl)) (by decide) (bytes := jdk_30_method_1_code) (maxL' := 1) (M := (rm1 l Z a0 hw a _)) rfl (lenOf pd_0 rfl) (by decide) (W := 0) (Nat.le_of_eq rfl) (by decide) (k' := 0) (n' := 0) rfl rfl (by decide) (by decide) (argsL := []) (rest := []) rfl (fun v2 h1 q3 => ?_)
  obtain ⟨rfl, rfl⟩ := q3
  refine G.cast (st' := []) ?_ rfl
  refine g_aloadN cx d1_4 rfl rfl ?_
  refine g_iloadN cx d1_5 rfl ?_
  refine g_putFN cx d1_6 (hw _ (List.mem_of_getElem? (i := 17) rfl)) Via.refl O_a.2.1 O_a.1 (Or.inr ⟨(hw _ (List.mem_of_getElem? (i := 18) rfl)), rfl, rfl⟩) (hw _ (List.mem_of_getElem? (i := 4) rfl)) (ty := .boolean) (v' := (.int (nar .boolean y1))) (by decide) rfl (fits_nar_bool _) g_a (fun h4 W5 => ?_)
  have O_a := O_a.put1 hw W5
  have OL := OL.wr W5 g_a
  have KK := KK.wr W5 (Or.inl (List.mem_of_getElem? (i := 0) rfl))
  refine g_aloadN cx d1_9 rfl rfl ?_
  refine g_iloadN cx d1_10 rfl ?_
  refine g_putF cx d1_11 (host := "") (Or.inl (hw _ (List.mem_of_getElem? (i := 19) rfl))) Via.refl O_a.2.2.1 O_a.1 (Or.inr ⟨(hw _ (List.mem_of_getElem? (i := 20) rfl)), rfl, rfl⟩) (hw _ (List.mem_of_getElem? (i := 4) rfl)) (ty := .int) (by decide) rfl rfl g_a (fun h6 W7 => ?_)
  have O_a := O_a.put2 hw W7
  have OL := OL.wr W7 g_a
  have KK := KK.wr W7 (Or.inl (List.mem_of_getElem? (i := 0) rfl))
  refine g_aloadN cx d1_14 rfl rfl ?_
  refine g_iloadN cx d1_15 rfl ?_
  refine g_putF cx d1_16 (host := "") (Or.inl (hw _ (List.mem_of_getElem? (i := 21) rfl))) Via.refl O_a.2.2.2.1 O_a.1 (Or.inr ⟨(hw _ (List.mem_of_getElem? (i := 22) rfl)), rfl, rfl⟩) (hw _ (List.mem_of_getElem? (i := 4) rfl)) (ty := .int) (by decide) rfl rfl g_a (fun h8 W9 => ?_)
  have O_a := O_a.put3 hw W9
  have OL := OL.wr W9 g_a
  have KK := KK.wr W9 (Or.inl (List.mem_of_getElem? (i := 0) rfl))
  refine g_aloadN cx d1_19 rfl rfl ?_
  refine g_iload cx d1_20 rfl ?_
  refine g_putF cx d1_22 (host := "") (Or.inl (hw _ (List.mem_of_getElem? (i := 23) rfl))) Via.refl O_a.2.2.2.2.1 O_a.1 (Or.inr ⟨(hw _ (List.mem_of_getElem? (i := 24) rfl)), rfl, rfl⟩) (hw _ (List.mem_of_getElem? (i := 4) rfl)) (ty := .int) (by decide) rfl rfl g_a (fun h10 W11 => ?_)
  have O_a := O_a.put4 hw W11
  have OL := OL.wr W11 g_a
  have KK := KK.wr W11 (Or.inl (List.mem_of_getElem? (i := 0) rfl))
  refine g_aloadN cx d1_25 rfl rfl ?_
  refine g_lload cx d1_26 rfl ?_
  refine g_putF cx d1_28 (host := "") (Or.inl (hw _ (List.mem_of_getElem? (i := 25) rfl))) Via.refl O_a.2.2.2.2.2 O_a.1 (Or.inr ⟨(hw _ (List.mem_of_getElem? (i := 26) rfl)), rfl, rfl⟩) (hw _ (List.mem_of_getElem? (i := 4) rfl)) (ty := .long) (by decide) rfl rfl g_a (fun h12 W13 => ?_)
  have O_a := O_a.put5 hw W13
  have OL := OL.wr W13 g_a
  have KK := KK.wr W13 (Or.inl (List.mem_of_getElem? (i := 0) rfl))
  refine g_retV cx d1_31 rfl (by decide) (by decide) ?_
  exact ⟨rfl, KK, O_a⟩
def own_dc (f l p : Int32) : Int32 := if f < p then (if p < l then l - f else l - f + 1) else l - f + 1
theorem own_dc1 (f l p : Int32) (h : ¬ f < p ∨ ¬ p < l) : own_dc f l p = l - f + 1 := by
  unfold own_dc
  rcases h with h | h
  · rw [if_neg h]
  · by_cases q : f < p
    · rw [if_pos q, if_neg h]
    · rw [if_neg q]
theorem own_dc2 (f l p : Int32) (h1 : f < p) (h2 : p < l) : own_dc f l p = l - f := by unfold own_dc; rw [if_pos h1, if_pos h2]
theorem own_r (a b d : Int32) : (0 ≤ (a &&& 1073741823).toInt ∧ (a &&& 1073741823).toInt < 1073741824) ∧ (0 ≤ (b &&& 268435455).toInt ∧ (b &&& 268435455).toInt < 268435456) ∧ (0 ≤ (d &&& 268435455).toInt ∧ (d &&& 268435455).toInt < 268435456) := by
  have e1 := c_mask a 1073741823 30 (by decide) (by decide)
  have e2 := c_mask b 268435455 28 (by decide) (by decide)
  have e3 := c_mask d 268435455 28 (by decide) (by decide)
  omega
theorem own_L1 (f c g : Int32) (hf : 0 ≤ f.toInt ∧ f.toInt < 1073741824) (hc : 0 ≤ c.toInt ∧ c.toInt < 268435456) (hg : 0 ≤ g.toInt ∧ g.toInt < 268435456) (h : 0 < f) : own_dc f (f + c - 1) (g % f) = c := by
  have z0 : (0 : Int32).toInt = 0 := rfl
  have z1 : (1 : Int32).toInt = 1 := rfl
  rw [Int32.lt_iff_toInt_lt, z0] at h
  have e1 := (c_iremV g f).1 hg.1 h
  rw [own_dc1 _ _ _ (Or.inl (by rw [Int32.lt_iff_toInt_lt]; omega)), ← Int32.toInt_inj]
  have e2 := c_iadd f c; have r2 := rng32 (f + c)
  have e3 := c_isub (f + c) 1; have r3 := rng32 (f + c - 1)
  have e4 := c_isub (f + c - 1) f; have r4 := rng32 (f + c - 1 - f)
  have e5 := c_iadd (f + c - 1 - f) 1; have r5 := rng32 (f + c - 1 - f + 1)
  omega
theorem own_L2 (f c g : Int32) (hf : 0 ≤ f.toInt ∧ f.toInt < 1073741824) (hc : 0 ≤ c.toInt ∧ c.toInt < 268435456) (hg : 0 ≤ g.toInt ∧ g.toInt < 268435456) (h : ¬ c < 2) : own_dc f (f + c) (f + (1 + g % (c - 1))) = c := by
  have z1 : (1 : Int32).toInt = 1 := rfl
  have z2 : (2 : Int32).toInt = 2 := rfl
  rw [Int32.lt_iff_toInt_lt, z2] at h
  have e0 := c_isub c 1; have r0 := rng32 (c - 1)
  have e1 := (c_iremV g (c - 1)).1 hg.1 (by omega)
  have e2 := c_iadd 1 (g % (c - 1)); have r2 := rng32 (1 + g % (c - 1))
  have e3 := c_iadd f (1 + g % (c - 1)); have r3 := rng32 (f + (1 + g % (c - 1)))
  have e4 := c_iadd f c; have r4 := rng32 (f + c)
  have e5 := c_isub (f + c) f; have r5 := rng32 (f + c - f)
  rw [own_dc2 _ _ _ (by rw [Int32.lt_iff_toInt_lt]; omega) (by rw [Int32.lt_iff_toInt_lt]; omega), ← Int32.toInt_inj]
  omega
theorem own_L3 (f c g : Int32) (hf : 0 ≤ f.toInt ∧ f.toInt < 1073741824) (hc : 0 ≤ c.toInt ∧ c.toInt < 268435456) (hg : 0 ≤ g.toInt ∧ g.toInt < 268435456) (h : c = 0) : own_dc f (f + c - 1) f = c := by
  have z1 : (1 : Int32).toInt = 1 := rfl
  rw [own_dc1 _ _ _ (Or.inl (Int32.lt_irrefl)), ← Int32.toInt_inj]
  have e2 := c_iadd f c; have r2 := rng32 (f + c)
  have e3 := c_isub (f + c) 1; have r3 := rng32 (f + c - 1)
  have e4 := c_isub (f + c - 1) f; have r4 := rng32 (f + c - 1 - f)
  have e5 := c_iadd (f + c - 1 - f) 1; have r5 := rng32 (f + c - 1 - f + 1)
  omega
theorem own_L4 (f c g : Int32) (hf : 0 ≤ f.toInt ∧ f.toInt < 1073741824) (hc : 0 ≤ c.toInt ∧ c.toInt < 268435456) (hg : 0 ≤ g.toInt ∧ g.toInt < 268435456) (h : ¬ c = 0) : own_dc f (f + c - 1) (f + c - 1 + 1 + g) = c := by
  have z1 : (1 : Int32).toInt = 1 := rfl
  have e2 := c_iadd f c; have r2 := rng32 (f + c)
  have e3 := c_isub (f + c) 1; have r3 := rng32 (f + c - 1)
  have e4 := c_isub (f + c - 1) f; have r4 := rng32 (f + c - 1 - f)
  have e5 := c_iadd (f + c - 1 - f) 1; have r5 := rng32 (f + c - 1 - f + 1)
  have e6 := c_iadd (f + c - 1) 1; have r6 := rng32 (f + c - 1 + 1)
  have e7 := c_iadd (f + c - 1 + 1) g; have r7 := rng32 (f + c - 1 + 1 + g)
  rw [own_dc1 _ _ _ (Or.inr (by rw [Int32.lt_iff_toInt_lt]; omega)), ← Int32.toInt_inj]
  omega
theorem own_nz (c : Int32) (h : ¬ c < 2) : c - 1 ≠ 0 := fun z => by
  have : c = 1 := by rw [← Int32.sub_add_cancel c 1, z]; rfl
  subst this; exact h (by decide)
theorem own_nz1 (f : Int32) (h : 0 < f) : f ≠ 0 := fun z => by subst z; exact absurd h (by decide)
theorem d4_0 : Dc prog_22_method_3_code 0 (.aload_n 0) 1 1 := ⟨by decide +kernel, rfl⟩
theorem d4_1 : Dc prog_22_method_3_code 1 (.getfield 13) 3 4 := ⟨by decide +kernel, rfl⟩
theorem d4_4 : Dc prog_22_method_3_code 4 (.aload_n 0) 1 5 := ⟨by decide +kernel, rfl⟩
theorem d4_5 : Dc prog_22_method_3_code 5 (.getfield 20) 3 8 := ⟨by decide +kernel, rfl⟩
theorem d4_8 : Bi prog_22_method_3_code 8 (Instr.if_icmp .ge) 34 11 := ⟨26, by decide +kernel, by decide, by decide, rfl⟩
theorem d4_34 : Dc prog_22_method_3_code 34 (.aload_n 0) 1 35 := ⟨by decide +kernel, rfl⟩
theorem d4_35 : Dc prog_22_method_3_code 35 (.getfield 17) 3 38 := ⟨by decide +kernel, rfl⟩
theorem d4_38 : Dc prog_22_method_3_code 38 (.aload_n 0) 1 39 := ⟨by decide +kernel, rfl⟩
theorem d4_39 : Dc prog_22_method_3_code 39 (.getfield 13) 3 42 := ⟨by decide +kernel, rfl⟩
theorem d4_42 : Dc prog_22_method_3_code 42 (.isub) 1 43 := ⟨by decide +kernel, rfl⟩
theorem d4_43 : Dc prog_22_method_3_code 43 (.iconst 1) 1 44 := ⟨by decide +kernel, rfl⟩
theorem d4_44 : Dc prog_22_method_3_code 44 (.iadd) 1 45 := ⟨by decide +kernel, rfl⟩
theorem d4_45 : Dc prog_22_method_3_code 45 (.ireturn) 1 46 := ⟨by decide +kernel, rfl⟩
theorem d4_11 : Dc prog_22_method_3_code 11 (.aload_n 0) 1 12 := ⟨by decide +kernel, rfl⟩
theorem d4_12 : Dc prog_22_method_3_code 12 (.getfield 20) 3 15 := ⟨by decide +kernel, rfl⟩
theorem d4_15 : Dc prog_22_method_3_code 15 (.aload_n 0) 1 16 := ⟨by decide +kernel, rfl⟩
theorem d4_16 : Dc prog_22_method_3_code 16 (.getfield 17) 3 19 := ⟨by decide +kernel, rfl⟩
theorem d4_19 : Bi prog_22_method_3_code 19 (Instr.if_icmp .ge) 34 22 := ⟨15, by decide +kernel, by decide, by decide, rfl⟩
theorem d4_22 : Dc prog_22_method_3_code 22 (.aload_n 0) 1 23 := ⟨by decide +kernel, rfl⟩
theorem d4_23 : Dc prog_22_method_3_code 23 (.getfield 17) 3 26 := ⟨by decide +kernel, rfl⟩
theorem d4_26 : Dc prog_22_method_3_code 26 (.aload_n 0) 1 27 := ⟨by decide +kernel, rfl⟩
theorem d4_27 : Dc prog_22_method_3_code 27 (.getfield 13) 3 30 := ⟨by decide +kernel, rfl⟩
theorem d4_30 : Dc prog_22_method_3_code 30 (.isub) 1 31 := ⟨by decide +kernel, rfl⟩
theorem d4_31 : Bi prog_22_method_3_code 31 (Instr.goto) 45 34 := ⟨14, by decide +kernel, by decide, by decide, rfl⟩
theorem pn_rm3 : plainName "com/example/crisp_typedef/crisptypedef/NumberText$Significand" = true := by first | (simp [plainName, overriddenIn]; done) | decide +kernel
set_option maxRecDepth 65536 in
set_option maxHeartbeats 40000000 in
theorem rm3 (l : Launch) (Z : State) (a0 : Array Value) (hw : ∀ d ∈ tables_1, d.before a0 Z = true) (a : Addr) (u1 u2 u3 u4 : Int32) (u5 : Int64) (h0 : Heap) (O_a : ObB Z h0 a (.int u1) (.int u2) (.int u3) (.int u4) (.long u5)) :
    Met l Z (⟨"com/example/crisp_typedef/crisptypedef/NumberText$Significand", "digitCount", "()I"⟩ : MethodName) prog_22_method_3_code 1 (some .int) ({ frames := 0, cells := 0, slots := 0, locals := 0 } : Room) #[(.ref a)] h0 (fun v h' => v = some (.int (own_dc u2 u3 u4)) ∧ h0 = h') := by
  refine met_of (Ls := #[.val (.ref a)]) (plainFor_of_name pn_rm3) (fun m => by first | (simp [entryFrame, mkF, argsToLocals, Value.category]; done) | rfl) (fun p e s m below meth c cx => ?_)
  refine g_aloadN cx d4_0 rfl rfl ?_
  refine g_getF cx d4_1 (host := "") (Or.inl (hw _ (List.mem_of_getElem? (i := 19) rfl))) Via.refl O_a.2.2.1 ?_
  refine g_aloadN cx d4_4 rfl rfl ?_
  refine g_getF cx d4_5 (host := "") (Or.inl (hw _ (List.mem_of_getElem? (i := 23) rfl))) Via.refl O_a.2.2.2.2.1 ?_
  refine g_icmp_ge cx d4_8 (fun hc8 => ?_) (fun hc8 => ?_)
  · refine g_aloadN cx d4_34 rfl rfl ?_
    refine g_getF cx d4_35 (host := "") (Or.inl (hw _ (List.mem_of_getElem? (i := 21) rfl))) Via.refl O_a.2.2.2.1 ?_
    refine g_aloadN cx d4_38 rfl rfl ?_
    refine g_getF cx d4_39 (host := "") (Or.inl (hw _ (List.mem_of_getElem? (i := 19) rfl))) Via.refl O_a.2.2.1 ?_
    refine g_isub cx d4_42 ?_
    refine g_iconst cx d4_43 (v := (1 : Int32)) rfl ?_
    refine g_iadd cx d4_44 ?_
    refine g_retI cx d4_45 rfl (by decide) (by decide) ?_
    exact ⟨by simp [own_dc, hc8], rfl⟩
  · refine g_aloadN cx d4_11 rfl rfl ?_
    refine g_getF cx d4_12 (host := "") (Or.inl (hw _ (List.mem_of_getElem? (i := 23) rfl))) Via.refl O_a.2.2.2.2.1 ?_
    refine g_aloadN cx d4_15 rfl rfl ?_
    refine g_getF cx d4_16 (host := "") (Or.inl (hw _ (List.mem_of_getElem? (i := 21) rfl))) Via.refl O_a.2.2.2.1 ?_
    refine g_icmp_ge cx d4_19 (fun hc19 => ?_) (fun hc19 => ?_)
    · refine g_aloadN cx d4_34 rfl rfl ?_
      refine g_getF cx d4_35 (host := "") (Or.inl (hw _ (List.mem_of_getElem? (i := 21) rfl))) Via.refl O_a.2.2.2.1 ?_
      refine g_aloadN cx d4_38 rfl rfl ?_
      refine g_getF cx d4_39 (host := "") (Or.inl (hw _ (List.mem_of_getElem? (i := 19) rfl))) Via.refl O_a.2.2.1 ?_
      refine g_isub cx d4_42 ?_
      refine g_iconst cx d4_43 (v := (1 : Int32)) rfl ?_
      refine g_iadd cx d4_44 ?_
      refine g_retI cx d4_45 rfl (by decide) (by decide) ?_
      exact ⟨by simp [own_dc, hc8, hc19], rfl⟩
    · refine g_aloadN cx d4_22 rfl rfl ?_
      refine g_getF cx d4_23 (host := "") (Or.inl (hw _ (List.mem_of_getElem? (i := 21) rfl))) Via.refl O_a.2.2.2.1 ?_
      refine g_aloadN cx d4_26 rfl rfl ?_
      refine g_getF cx d4_27 (host := "") (Or.inl (hw _ (List.mem_of_getElem? (i := 19) rfl))) Via.refl O_a.2.2.1 ?_
      refine g_isub cx d4_30 ?_
      refine g_goto cx d4_31 ?_
      refine g_retI cx d4_45 rfl (by decide) (by decide) ?_
      exact ⟨by simp [own_dc, hc8, hc19], rfl⟩
theorem d0_0 : Dc code 0 (.iload_n 0) 1 1 := ⟨by decide +kernel, rfl⟩
theorem d0_1 : Dc code 1 (.ldc 7) 2 3 := ⟨by decide +kernel, rfl⟩
theorem d0_3 : Dc code 3 (.iand) 1 4 := ⟨by decide +kernel, rfl⟩
theorem d0_4 : Dc code 4 (.istore 7) 2 6 := ⟨by decide +kernel, rfl⟩
theorem d0_6 : Dc code 6 (.iload_n 1) 1 7 := ⟨by decide +kernel, rfl⟩
theorem d0_7 : Dc code 7 (.ldc 8) 2 9 := ⟨by decide +kernel, rfl⟩
theorem d0_9 : Dc code 9 (.iand) 1 10 := ⟨by decide +kernel, rfl⟩
theorem d0_10 : Dc code 10 (.istore 8) 2 12 := ⟨by decide +kernel, rfl⟩
theorem d0_12 : Dc code 12 (.iload_n 3) 1 13 := ⟨by decide +kernel, rfl⟩
theorem d0_13 : Dc code 13 (.ldc 8) 2 15 := ⟨by decide +kernel, rfl⟩
theorem d0_15 : Dc code 15 (.iand) 1 16 := ⟨by decide +kernel, rfl⟩
theorem d0_16 : Dc code 16 (.istore 9) 2 18 := ⟨by decide +kernel, rfl⟩
theorem d0_18 : Dc code 18 (.iload_n 2) 1 19 := ⟨by decide +kernel, rfl⟩
theorem d0_19 : Dc code 19 (.ldc 9) 2 21 := ⟨by decide +kernel, rfl⟩
theorem d0_21 : Dc code 21 (.iand) 1 22 := ⟨by decide +kernel, rfl⟩
theorem d0_22 : Dc code 22 (.iconst 3) 1 23 := ⟨by decide +kernel, rfl⟩
theorem d0_23 : Dc code 23 (.irem) 1 24 := ⟨by decide +kernel, rfl⟩
theorem d0_24 : Dc code 24 (.istore 10) 2 26 := ⟨by decide +kernel, rfl⟩
theorem d0_26 : Dc code 26 (.iload 10) 2 28 := ⟨by decide +kernel, rfl⟩
theorem d0_28 : Bi code 28 (Instr.ifCond .ne) 55 31 := ⟨27, by decide +kernel, by decide, by decide, rfl⟩
theorem d0_55 : Dc code 55 (.iload 10) 2 57 := ⟨by decide +kernel, rfl⟩
theorem d0_57 : Dc code 57 (.iconst 1) 1 58 := ⟨by decide +kernel, rfl⟩
theorem d0_58 : Bi code 58 (Instr.if_icmp .ne) 95 61 := ⟨37, by decide +kernel, by decide, by decide, rfl⟩
theorem d0_95 : Dc code 95 (.iload 7) 2 97 := ⟨by decide +kernel, rfl⟩
theorem d0_97 : Dc code 97 (.iload 8) 2 99 := ⟨by decide +kernel, rfl⟩
theorem d0_99 : Dc code 99 (.iadd) 1 100 := ⟨by decide +kernel, rfl⟩
theorem d0_100 : Dc code 100 (.iconst 1) 1 101 := ⟨by decide +kernel, rfl⟩
theorem d0_101 : Dc code 101 (.isub) 1 102 := ⟨by decide +kernel, rfl⟩
theorem d0_102 : Dc code 102 (.istore 11) 2 104 := ⟨by decide +kernel, rfl⟩
theorem d0_104 : Dc code 104 (.iload 8) 2 106 := ⟨by decide +kernel, rfl⟩
theorem d0_106 : Bi code 106 (Instr.ifCond .ne) 114 109 := ⟨8, by decide +kernel, by decide, by decide, rfl⟩
theorem d0_114 : Dc code 114 (.iload 11) 2 116 := ⟨by decide +kernel, rfl⟩
theorem d0_116 : Dc code 116 (.iconst 1) 1 117 := ⟨by decide +kernel, rfl⟩
theorem d0_117 : Dc code 117 (.iadd) 1 118 := ⟨by decide +kernel, rfl⟩
theorem d0_118 : Dc code 118 (.iload 9) 2 120 := ⟨by decide +kernel, rfl⟩
theorem d0_120 : Dc code 120 (.iadd) 1 121 := ⟨by decide +kernel, rfl⟩
theorem d0_121 : Dc code 121 (.istore 12) 2 123 := ⟨by decide +kernel, rfl⟩
theorem d0_123 : Dc code 123 (.new 10) 3 126 := ⟨by decide +kernel, rfl⟩
theorem d0_126 : Dc code 126 (.dup) 1 127 := ⟨by decide +kernel, rfl⟩
theorem d0_127 : Dc code 127 (.iload 4) 2 129 := ⟨by decide +kernel, rfl⟩
theorem d0_129 : Dc code 129 (.iconst 1) 1 130 := ⟨by decide +kernel, rfl⟩
theorem d0_130 : Dc code 130 (.iand) 1 131 := ⟨by decide +kernel, rfl⟩
theorem d0_131 : Bi code 131 (Instr.ifCond .eq) 138 134 := ⟨7, by decide +kernel, by decide, by decide, rfl⟩
theorem d0_138 : Dc code 138 (.iconst 0) 1 139 := ⟨by decide +kernel, rfl⟩
theorem d0_139 : Dc code 139 (.iload 7) 2 141 := ⟨by decide +kernel, rfl⟩
theorem d0_141 : Dc code 141 (.iload 11) 2 143 := ⟨by decide +kernel, rfl⟩
theorem d0_143 : Dc code 143 (.iload 12) 2 145 := ⟨by decide +kernel, rfl⟩
theorem d0_145 : Dc code 145 (.lload 5) 2 147 := ⟨by decide +kernel, rfl⟩
theorem pd_1 : parseMethodDescriptor "(ZIIIJ)V" = some ⟨[.boolean, .int, .int, .int, .long], none⟩ := by decide +kernel
theorem d0_147 : Dc code 147 (.invokespecial 12) 3 150 := ⟨by decide +kernel, rfl⟩
theorem d0_150 : Dc code 150 (.astore 13) 2 152 := ⟨by decide +kernel, rfl⟩
theorem d0_152 : Dc code 152 (.aload 13) 2 154 := ⟨by decide +kernel, rfl⟩
theorem pd_2 : parseMethodDescriptor "()I" = some ⟨[], some .int⟩ := by decide +kernel
theorem d0_154 : Dc code 154 (.invokevirtual 15) 3 157 := ⟨by decide +kernel, rfl⟩
theorem d0_157 : Dc code 157 (.iload 8) 2 159 := ⟨by decide +kernel, rfl⟩
theorem d0_159 : Bi code 159 (Instr.if_icmp .ne) 166 162 := ⟨7, by decide +kernel, by decide, by decide, rfl⟩
theorem d0_166 : Dc code 166 (.iconst 0) 1 167 := ⟨by decide +kernel, rfl⟩
theorem d0_167 : Dc code 167 (.ireturn) 1 168 := ⟨by decide +kernel, rfl⟩
theorem d0_162 : Dc code 162 (.iconst 1) 1 163 := ⟨by decide +kernel, rfl⟩
theorem d0_163 : Bi code 163 (Instr.goto) 167 166 := ⟨4, by decide +kernel, by decide, by decide, rfl⟩
theorem d0_134 : Dc code 134 (.iconst 1) 1 135 := ⟨by decide +kernel, rfl⟩
theorem d0_135 : Bi code 135 (Instr.goto) 139 138 := ⟨4, by decide +kernel, by decide, by decide, rfl⟩
theorem d0_109 : Dc code 109 (.iload 7) 2 111 := ⟨by decide +kernel, rfl⟩
theorem d0_111 : Bi code 111 (Instr.goto) 121 114 := ⟨10, by decide +kernel, by decide, by decide, rfl⟩
theorem d0_61 : Dc code 61 (.iload 8) 2 63 := ⟨by decide +kernel, rfl⟩
theorem d0_63 : Dc code 63 (.iconst 2) 1 64 := ⟨by decide +kernel, rfl⟩
theorem d0_64 : Bi code 64 (Instr.if_icmp .lt) 95 67 := ⟨31, by decide +kernel, by decide, by decide, rfl⟩
theorem d0_67 : Dc code 67 (.iconst 1) 1 68 := ⟨by decide +kernel, rfl⟩
theorem d0_68 : Dc code 68 (.iload 9) 2 70 := ⟨by decide +kernel, rfl⟩
theorem d0_70 : Dc code 70 (.iload 8) 2 72 := ⟨by decide +kernel, rfl⟩
theorem d0_72 : Dc code 72 (.iconst 1) 1 73 := ⟨by decide +kernel, rfl⟩
theorem d0_73 : Dc code 73 (.isub) 1 74 := ⟨by decide +kernel, rfl⟩
theorem d0_74 : Dc code 74 (.irem) 1 75 := ⟨by decide +kernel, rfl⟩
theorem d0_75 : Dc code 75 (.iadd) 1 76 := ⟨by decide +kernel, rfl⟩
theorem d0_76 : Dc code 76 (.istore 13) 2 78 := ⟨by decide +kernel, rfl⟩
theorem d0_78 : Dc code 78 (.iload 7) 2 80 := ⟨by decide +kernel, rfl⟩
theorem d0_80 : Dc code 80 (.iload 13) 2 82 := ⟨by decide +kernel, rfl⟩
theorem d0_82 : Dc code 82 (.iadd) 1 83 := ⟨by decide +kernel, rfl⟩
theorem d0_83 : Dc code 83 (.istore 12) 2 85 := ⟨by decide +kernel, rfl⟩
theorem d0_85 : Dc code 85 (.iload 7) 2 87 := ⟨by decide +kernel, rfl⟩
theorem d0_87 : Dc code 87 (.iload 8) 2 89 := ⟨by decide +kernel, rfl⟩
theorem d0_89 : Dc code 89 (.iadd) 1 90 := ⟨by decide +kernel, rfl⟩
theorem d0_90 : Dc code 90 (.istore 11) 2 92 := ⟨by decide +kernel, rfl⟩
theorem d0_92 : Bi code 92 (Instr.goto) 123 95 := ⟨31, by decide +kernel, by decide, by decide, rfl⟩
theorem d0_31 : Dc code 31 (.iload 7) 2 33 := ⟨by decide +kernel, rfl⟩
theorem d0_33 : Bi code 33 (Instr.ifCond .le) 55 36 := ⟨22, by decide +kernel, by decide, by decide, rfl⟩
theorem d0_36 : Dc code 36 (.iload 7) 2 38 := ⟨by decide +kernel, rfl⟩
theorem d0_38 : Dc code 38 (.iload 8) 2 40 := ⟨by decide +kernel, rfl⟩
theorem d0_40 : Dc code 40 (.iadd) 1 41 := ⟨by decide +kernel, rfl⟩
theorem d0_41 : Dc code 41 (.iconst 1) 1 42 := ⟨by decide +kernel, rfl⟩
theorem d0_42 : Dc code 42 (.isub) 1 43 := ⟨by decide +kernel, rfl⟩
theorem d0_43 : Dc code 43 (.istore 11) 2 45 := ⟨by decide +kernel, rfl⟩
theorem d0_45 : Dc code 45 (.iload 9) 2 47 := ⟨by decide +kernel, rfl⟩
theorem d0_47 : Dc code 47 (.iload 7) 2 49 := ⟨by decide +kernel, rfl⟩
theorem d0_49 : Dc code 49 (.irem) 1 50 := ⟨by decide +kernel, rfl⟩
theorem d0_50 : Dc code 50 (.istore 12) 2 52 := ⟨by decide +kernel, rfl⟩
theorem d0_52 : Bi code 52 (Instr.goto) 123 55 := ⟨71, by decide +kernel, by decide, by decide, rfl⟩
theorem pn_rm0 : plainName "com/example/crisp_typedef/crisptypedef/SignificandDigitCountPinLaw" = true := by first | (simp [plainName, overriddenIn]; done) | decide +kernel
set_option maxRecDepth 65536 in
set_option maxHeartbeats 40000000 in
theorem rm0 (l : Launch) (Z : State) (a0 : Array Value) (hw : ∀ d ∈ tables_1, d.before a0 Z = true) (a b mm d fl : Int32) (pw : Int64) (h0 : Heap) (OL : Old Z Z.heap.size h0) :
    Met l Z x code maxLocals ret room_1 #[(.int a), (.int b), (.int mm), (.int d), (.int fl), (.long pw)] h0 (fun v _ => v = some (.int 1)) := by
  refine met_of (Ls := #[.val (.int a), .val (.int b), .val (.int mm), .val (.int d), .val (.int fl), .val (.long pw), .second, .unset, .unset, .unset, .unset, .unset, .unset, .unset]) (plainFor_of_name pn_rm0) (fun m => by first | (simp [entryFrame, mkF, argsToLocals, Value.category, maxLocals]; done) | rfl) (fun p e s m below meth c cx => ?_)
  refine g_iloadN cx d0_0 rfl ?_
  refine g_ldcI cx d0_1 (hw _ (List.mem_of_getElem? (i := 0) rfl)) ?_
  refine g_iand cx d0_3 ?_
  refine g_istore cx d0_4 (Ls' := #[.val (.int a), .val (.int b), .val (.int mm), .val (.int d), .val (.int fl), .val (.long pw), .second, .val (.int (a &&& (1073741823 : Int32))), .unset, .unset, .unset, .unset, .unset, .unset]) rfl ?_
  refine g_iloadN cx d0_6 rfl ?_
  refine g_ldcI cx d0_7 (hw _ (List.mem_of_getElem? (i := 1) rfl)) ?_
  refine g_iand cx d0_9 ?_
  refine g_istore cx d0_10 (Ls' := #[.val (.int a), .val (.int b), .val (.int mm), .val (.int d), .val (.int fl), .val (.long pw), .second, .val (.int (a &&& (1073741823 : Int32))), .val (.int (b &&& (268435455 : Int32))), .unset, .unset, .unset, .unset, .unset]) rfl ?_
  refine g_iloadN cx d0_12 rfl ?_
  refine g_ldcI cx d0_13 (hw _ (List.mem_of_getElem? (i := 1) rfl)) ?_
  refine g_iand cx d0_15 ?_
  refine g_istore cx d0_16 (Ls' := #[.val (.int a), .val (.int b), .val (.int mm), .val (.int d), .val (.int fl), .val (.long pw), .second, .val (.int (a &&& (1073741823 : Int32))), .val (.int (b &&& (268435455 : Int32))), .val (.int (d &&& (268435455 : Int32))), .unset, .unset, .unset, .unset]) rfl ?_
  refine g_iloadN cx d0_18 rfl ?_
  refine g_ldcI cx d0_19 (hw _ (List.mem_of_getElem? (i := 2) rfl)) ?_
  refine g_iand cx d0_21 ?_
  refine g_iconst cx d0_22 (v := (3 : Int32)) rfl ?_
  refine g_irem cx d0_23 (by decide) ?_
  refine g_istore cx d0_24 (Ls' := #[.val (.int a), .val (.int b), .val (.int mm), .val (.int d), .val (.int fl), .val (.long pw), .second, .val (.int (a &&& (1073741823 : Int32))), .val (.int (b &&& (268435455 : Int32))), .val (.int (d &&& (268435455 : Int32))), .val (.int ((mm &&& (2147483647 : Int32)) % (3 : Int32))), .unset, .unset, .unset]) rfl ?_
  refine g_iload cx d0_26 rfl ?_
  refine g_if_ne cx d0_28 (fun hc28 => ?_) (fun hc28 => ?_)
  · refine g_iload cx d0_55 rfl ?_
    refine g_iconst cx d0_57 (v := (1 : Int32)) rfl ?_
    refine g_icmp_ne cx d0_58 (fun hc58 => ?_) (fun hc58 => ?_)
    · refine g_iload cx d0_95 rfl ?_
      refine g_iload cx d0_97 rfl ?_
      refine g_iadd cx d0_99 ?_
      refine g_iconst cx d0_100 (v := (1 : Int32)) rfl ?_
      refine g_isub cx d0_101 ?_
      refine g_istore cx d0_102 (Ls' := #[.val (.int a), .val (.int b), .val (.int mm), .val (.int d), .val (.int fl), .val (.long pw), .second, .val (.int (a &&& (1073741823 : Int32))), .val (.int (b &&& (268435455 : Int32))), .val (.int (d &&& (268435455 : Int32))), .val (.int ((mm &&& (2147483647 : Int32)) % (3 : Int32))), .val (.int (((a &&& (1073741823 : Int32)) + (b &&& (268435455 : Int32))) - (1 : Int32))), .unset, .unset]) rfl ?_
      refine g_iload cx d0_104 rfl ?_
      refine g_if_ne cx d0_106 (fun hc106 => ?_) (fun hc106 => ?_)
      · refine g_iload cx d0_114 rfl ?_
        refine g_iconst cx d0_116 (v := (1 : Int32)) rfl ?_
        refine g_iadd cx d0_117 ?_
        refine g_iload cx d0_118 rfl ?_
        refine g_iadd cx d0_120 ?_
        refine g_istore cx d0_121 (Ls' := #[.val (.int a), .val (.int b), .val (.int mm), .val (.int d), .val (.int fl), .val (.long pw), .second, .val (.int (a &&& (1073741823 : Int32))), .val (.int (b &&& (268435455 : Int32))), .val (.int (d &&& (268435455 : Int32))), .val (.int ((mm &&& (2147483647 : Int32)) % (3 : Int32))), .val (.int (((a &&& (1073741823 : Int32)) + (b &&& (268435455 : Int32))) - (1 : Int32))), .val (.int (((((a &&& (1073741823 : Int32)) + (b &&& (268435455 : Int32))) - (1 : Int32)) + (1 : Int32)) + (d &&& (268435455 : Int32)))), .unset]) rfl ?_
        refine g_new cx d0_123 (hw _ (List.mem_of_getElem? (i := 3) rfl)) (hw _ (List.mem_of_getElem? (i := 4) rfl)) (hw _ (List.mem_of_getElem? (i := 5) rfl)) (k' := 1) (n' := 5) rfl rfl (by decide) (by decide) (fun h1 b2 gb3 E4 X5 D6 => ?_)
        have g_b2 : Z.heap.size ≤ b2 := by rw [gb3]; exact OL.2.1
        have OL := OL.ext E4
        have O_b2 := ObB.new hw X5 D6
        refine g_dup cx d0_126 rfl ?_
        refine g_iload cx d0_127 rfl ?_
        refine g_iconst cx d0_129 (v := (1 : Int32)) rfl ?_
        refine g_iand cx d0_130 ?_
        refine g_if_eq cx d0_131 (fun hc131 => ?_) (fun hc131 => ?_)
        · refine g_iconst cx d0_138 (v := (0 : Int32)) rfl ?_
          refine g_iload cx d0_139 rfl ?_
          refine g_iload cx d0_141 rfl ?_
          refine g_iload cx d0_143 rfl ?_
          refine g_lload cx d0_145 rfl ?_
          refine g_special cx (y := (⟨"com/example/crisp_typedef/crisptypedef/NumberText$Significand", "<init>", "(ZIIIJ)V"⟩ : MethodName)) (a := b2) d0_147 rfl rfl (hw _ (List.mem_of_getElem? (i := 6) rfl)) (hw _ (List.mem_of_getElem? (i := 7) rfl)) (hw _ (List.mem_of_getElem? (i := 5) rfl)) (hw _ (List.mem_of_getElem? (i := 8) rfl)) (by decide) (bytes := prog_22_method_1_code) (maxL' := 7) (M := (rm2 l Z a0 hw b2 ((0 : Int32)) ((a &&& (1073741823 : Int32))) ((((a &&& (1073741823 : Int32)) + (b &&& (268435455 : Int32))) - (1 : Int32))) ((((((a &&& (1073741823 : Int32)) + (b &&& (268435455 : Int32))) - (1 : Int32)) + (1 : Int32)) + (d &&& (268435455 : Int32)))) pw _ O_b2 g_b2 OL)) rfl (lenOf pd_1 rfl) (by decide) (W := 1) (Nat.le_of_eq rfl) (by decide) (k' := 1) (n' := 5) rfl rfl (by decide) (by decide) (argsL := [(.int (0 : Int32)), (.int (a &&& (1073741823 : Int32))), (.int (((a &&& (1073741823 : Int32)) + (b &&& (268435455 : Int32))) - (1 : Int32))), (.int (((((a &&& (1073741823 : Int32)) + (b &&& (268435455 : Int32))) - (1 : Int32)) + (1 : Int32)) + (d &&& (268435455 : Int32)))), (.long pw)]) (rest := [(.ref b2)]) rfl (fun v9 h8 q10 => ?_)
          obtain ⟨rfl, K7, O_b2⟩ := q10
          have OL := OL.keep K7 (allS g_b2 all0)
          refine G.cast (st' := [(.ref b2)]) ?_ rfl
          refine g_astore cx d0_150 rfl (Ls' := #[.val (.int a), .val (.int b), .val (.int mm), .val (.int d), .val (.int fl), .val (.long pw), .second, .val (.int (a &&& (1073741823 : Int32))), .val (.int (b &&& (268435455 : Int32))), .val (.int (d &&& (268435455 : Int32))), .val (.int ((mm &&& (2147483647 : Int32)) % (3 : Int32))), .val (.int (((a &&& (1073741823 : Int32)) + (b &&& (268435455 : Int32))) - (1 : Int32))), .val (.int (((((a &&& (1073741823 : Int32)) + (b &&& (268435455 : Int32))) - (1 : Int32)) + (1 : Int32)) + (d &&& (268435455 : Int32)))), .val (.ref b2)]) rfl ?_
          refine g_aload cx d0_152 rfl rfl ?_
          refine g_virtual cx (y := (⟨"com/example/crisp_typedef/crisptypedef/NumberText$Significand", "digitCount", "()I"⟩ : MethodName)) (z := (⟨"com/example/crisp_typedef/crisptypedef/NumberText$Significand", "digitCount", "()I"⟩ : MethodName)) (a := b2) d0_154 (hw _ (List.mem_of_getElem? (i := 27) rfl)) (hw _ (List.mem_of_getElem? (i := 28) rfl)) (hw _ (List.mem_of_getElem? (i := 5) rfl)) (hw _ (List.mem_of_getElem? (i := 31) rfl)) (hw _ (List.mem_of_getElem? (i := 30) rfl)) (hw _ (List.mem_of_getElem? (i := 29) rfl)) rfl (by decide) O_b2.1 (bytes := prog_22_method_3_code) (maxL' := 1) (M := (rm3 l Z a0 hw _ _ _ _ _ _ _ O_b2)) rfl (lenOf pd_2 rfl) (by decide) (W := 0) (Nat.le_of_eq rfl) (by decide) (k' := 1) (n' := 5) rfl rfl (by decide) (by decide) (argsL := []) (rest := []) rfl (fun v12 h11 q13 => ?_)
          obtain ⟨rfl, rfl⟩ := q13
          refine G.cast (st' := [(.int (own_dc (a &&& (1073741823 : Int32)) (((a &&& (1073741823 : Int32)) + (b &&& (268435455 : Int32))) - (1 : Int32)) (((((a &&& (1073741823 : Int32)) + (b &&& (268435455 : Int32))) - (1 : Int32)) + (1 : Int32)) + (d &&& (268435455 : Int32)))))]) ?_ rfl
          refine g_iload cx d0_157 rfl ?_
          refine g_icmp_ne cx d0_159 (fun hc159 => ?_) (fun hc159 => ?_)
          · refine g_iconst cx d0_166 (v := (0 : Int32)) rfl ?_
            refine g_retZ cx d0_167 rfl rfl (by decide) (by decide) ?_
            exact absurd (own_L4 _ _ _ (own_r a b d).1 (own_r a b d).2.1 (own_r a b d).2.2 hc106) hc159
          · refine g_iconst cx d0_162 (v := (1 : Int32)) rfl ?_
            refine g_goto cx d0_163 ?_
            refine g_retZ cx d0_167 rfl rfl (by decide) (by decide) ?_
            rfl
        · refine g_iconst cx d0_134 (v := (1 : Int32)) rfl ?_
          refine g_goto cx d0_135 ?_
          refine g_iload cx d0_139 rfl ?_
          refine g_iload cx d0_141 rfl ?_
          refine g_iload cx d0_143 rfl ?_
          refine g_lload cx d0_145 rfl ?_
          refine g_special cx (y := (⟨"com/example/crisp_typedef/crisptypedef/NumberText$Significand", "<init>", "(ZIIIJ)V"⟩ : MethodName)) (a := b2) d0_147 rfl rfl (hw _ (List.mem_of_getElem? (i := 6) rfl)) (hw _ (List.mem_of_getElem? (i := 7) rfl)) (hw _ (List.mem_of_getElem? (i := 5) rfl)) (hw _ (List.mem_of_getElem? (i := 8) rfl)) (by decide) (bytes := prog_22_method_1_code) (maxL' := 7) (M := (rm2 l Z a0 hw b2 ((1 : Int32)) ((a &&& (1073741823 : Int32))) ((((a &&& (1073741823 : Int32)) + (b &&& (268435455 : Int32))) - (1 : Int32))) ((((((a &&& (1073741823 : Int32)) + (b &&& (268435455 : Int32))) - (1 : Int32)) + (1 : Int32)) + (d &&& (268435455 : Int32)))) pw _ O_b2 g_b2 OL)) rfl (lenOf pd_1 rfl) (by decide) (W := 1) (Nat.le_of_eq rfl) (by decide) (k' := 1) (n' := 5) rfl rfl (by decide) (by decide) (argsL := [(.int (1 : Int32)), (.int (a &&& (1073741823 : Int32))), (.int (((a &&& (1073741823 : Int32)) + (b &&& (268435455 : Int32))) - (1 : Int32))), (.int (((((a &&& (1073741823 : Int32)) + (b &&& (268435455 : Int32))) - (1 : Int32)) + (1 : Int32)) + (d &&& (268435455 : Int32)))), (.long pw)]) (rest := [(.ref b2)]) rfl (fun v16 h15 q17 => ?_)
          obtain ⟨rfl, K14, O_b2⟩ := q17
          have OL := OL.keep K14 (allS g_b2 all0)
          refine G.cast (st' := [(.ref b2)]) ?_ rfl
          refine g_astore cx d0_150 rfl (Ls' := #[.val (.int a), .val (.int b), .val (.int mm), .val (.int d), .val (.int fl), .val (.long pw), .second, .val (.int (a &&& (1073741823 : Int32))), .val (.int (b &&& (268435455 : Int32))), .val (.int (d &&& (268435455 : Int32))), .val (.int ((mm &&& (2147483647 : Int32)) % (3 : Int32))), .val (.int (((a &&& (1073741823 : Int32)) + (b &&& (268435455 : Int32))) - (1 : Int32))), .val (.int (((((a &&& (1073741823 : Int32)) + (b &&& (268435455 : Int32))) - (1 : Int32)) + (1 : Int32)) + (d &&& (268435455 : Int32)))), .val (.ref b2)]) rfl ?_
          refine g_aload cx d0_152 rfl rfl ?_
          refine g_virtual cx (y := (⟨"com/example/crisp_typedef/crisptypedef/NumberText$Significand", "digitCount", "()I"⟩ : MethodName)) (z := (⟨"com/example/crisp_typedef/crisptypedef/NumberText$Significand", "digitCount", "()I"⟩ : MethodName)) (a := b2) d0_154 (hw _ (List.mem_of_getElem? (i := 27) rfl)) (hw _ (List.mem_of_getElem? (i := 28) rfl)) (hw _ (List.mem_of_getElem? (i := 5) rfl)) (hw _ (List.mem_of_getElem? (i := 31) rfl)) (hw _ (List.mem_of_getElem? (i := 30) rfl)) (hw _ (List.mem_of_getElem? (i := 29) rfl)) rfl (by decide) O_b2.1 (bytes := prog_22_method_3_code) (maxL' := 1) (M := (rm3 l Z a0 hw _ _ _ _ _ _ _ O_b2)) rfl (lenOf pd_2 rfl) (by decide) (W := 0) (Nat.le_of_eq rfl) (by decide) (k' := 1) (n' := 5) rfl rfl (by decide) (by decide) (argsL := []) (rest := []) rfl (fun v19 h18 q20 => ?_)
          obtain ⟨rfl, rfl⟩ := q20
          refine G.cast (st' := [(.int (own_dc (a &&& (1073741823 : Int32)) (((a &&& (1073741823 : Int32)) + (b &&& (268435455 : Int32))) - (1 : Int32)) (((((a &&& (1073741823 : Int32)) + (b &&& (268435455 : Int32))) - (1 : Int32)) + (1 : Int32)) + (d &&& (268435455 : Int32)))))]) ?_ rfl
          refine g_iload cx d0_157 rfl ?_
          refine g_icmp_ne cx d0_159 (fun hc159 => ?_) (fun hc159 => ?_)
          · refine g_iconst cx d0_166 (v := (0 : Int32)) rfl ?_
            refine g_retZ cx d0_167 rfl rfl (by decide) (by decide) ?_
            exact absurd (own_L4 _ _ _ (own_r a b d).1 (own_r a b d).2.1 (own_r a b d).2.2 hc106) hc159
          · refine g_iconst cx d0_162 (v := (1 : Int32)) rfl ?_
            refine g_goto cx d0_163 ?_
            refine g_retZ cx d0_167 rfl rfl (by decide) (by decide) ?_
            rfl
      · refine g_iload cx d0_109 rfl ?_
        refine g_goto cx d0_111 ?_
        refine g_istore cx d0_121 (Ls' := #[.val (.int a), .val (.int b), .val (.int mm), .val (.int d), .val (.int fl), .val (.long pw), .second, .val (.int (a &&& (1073741823 : Int32))), .val (.int (b &&& (268435455 : Int32))), .val (.int (d &&& (268435455 : Int32))), .val (.int ((mm &&& (2147483647 : Int32)) % (3 : Int32))), .val (.int (((a &&& (1073741823 : Int32)) + (b &&& (268435455 : Int32))) - (1 : Int32))), .val (.int (a &&& (1073741823 : Int32))), .unset]) rfl ?_
        refine g_new cx d0_123 (hw _ (List.mem_of_getElem? (i := 3) rfl)) (hw _ (List.mem_of_getElem? (i := 4) rfl)) (hw _ (List.mem_of_getElem? (i := 5) rfl)) (k' := 1) (n' := 5) rfl rfl (by decide) (by decide) (fun h21 b22 gb23 E24 X25 D26 => ?_)
        have g_b22 : Z.heap.size ≤ b22 := by rw [gb23]; exact OL.2.1
        have OL := OL.ext E24
        have O_b22 := ObB.new hw X25 D26
        refine g_dup cx d0_126 rfl ?_
        refine g_iload cx d0_127 rfl ?_
        refine g_iconst cx d0_129 (v := (1 : Int32)) rfl ?_
        refine g_iand cx d0_130 ?_
        refine g_if_eq cx d0_131 (fun hc131 => ?_) (fun hc131 => ?_)
        · refine g_iconst cx d0_138 (v := (0 : Int32)) rfl ?_
          refine g_iload cx d0_139 rfl ?_
          refine g_iload cx d0_141 rfl ?_
          refine g_iload cx d0_143 rfl ?_
          refine g_lload cx d0_145 rfl ?_
          refine g_special cx (y := (⟨"com/example/crisp_typedef/crisptypedef/NumberText$Significand", "<init>", "(ZIIIJ)V"⟩ : MethodName)) (a := b22) d0_147 rfl rfl (hw _ (List.mem_of_getElem? (i := 6) rfl)) (hw _ (List.mem_of_getElem? (i := 7) rfl)) (hw _ (List.mem_of_getElem? (i := 5) rfl)) (hw _ (List.mem_of_getElem? (i := 8) rfl)) (by decide) (bytes := prog_22_method_1_code) (maxL' := 7) (M := (rm2 l Z a0 hw b22 ((0 : Int32)) ((a &&& (1073741823 : Int32))) ((((a &&& (1073741823 : Int32)) + (b &&& (268435455 : Int32))) - (1 : Int32))) ((a &&& (1073741823 : Int32))) pw _ O_b22 g_b22 OL)) rfl (lenOf pd_1 rfl) (by decide) (W := 1) (Nat.le_of_eq rfl) (by decide) (k' := 1) (n' := 5) rfl rfl (by decide) (by decide) (argsL := [(.int (0 : Int32)), (.int (a &&& (1073741823 : Int32))), (.int (((a &&& (1073741823 : Int32)) + (b &&& (268435455 : Int32))) - (1 : Int32))), (.int (a &&& (1073741823 : Int32))), (.long pw)]) (rest := [(.ref b22)]) rfl (fun v29 h28 q30 => ?_)
          obtain ⟨rfl, K27, O_b22⟩ := q30
          have OL := OL.keep K27 (allS g_b22 all0)
          refine G.cast (st' := [(.ref b22)]) ?_ rfl
          refine g_astore cx d0_150 rfl (Ls' := #[.val (.int a), .val (.int b), .val (.int mm), .val (.int d), .val (.int fl), .val (.long pw), .second, .val (.int (a &&& (1073741823 : Int32))), .val (.int (b &&& (268435455 : Int32))), .val (.int (d &&& (268435455 : Int32))), .val (.int ((mm &&& (2147483647 : Int32)) % (3 : Int32))), .val (.int (((a &&& (1073741823 : Int32)) + (b &&& (268435455 : Int32))) - (1 : Int32))), .val (.int (a &&& (1073741823 : Int32))), .val (.ref b22)]) rfl ?_
          refine g_aload cx d0_152 rfl rfl ?_
          refine g_virtual cx (y := (⟨"com/example/crisp_typedef/crisptypedef/NumberText$Significand", "digitCount", "()I"⟩ : MethodName)) (z := (⟨"com/example/crisp_typedef/crisptypedef/NumberText$Significand", "digitCount", "()I"⟩ : MethodName)) (a := b22) d0_154 (hw _ (List.mem_of_getElem? (i := 27) rfl)) (hw _ (List.mem_of_getElem? (i := 28) rfl)) (hw _ (List.mem_of_getElem? (i := 5) rfl)) (hw _ (List.mem_of_getElem? (i := 31) rfl)) (hw _ (List.mem_of_getElem? (i := 30) rfl)) (hw _ (List.mem_of_getElem? (i := 29) rfl)) rfl (by decide) O_b22.1 (bytes := prog_22_method_3_code) (maxL' := 1) (M := (rm3 l Z a0 hw _ _ _ _ _ _ _ O_b22)) rfl (lenOf pd_2 rfl) (by decide) (W := 0) (Nat.le_of_eq rfl) (by decide) (k' := 1) (n' := 5) rfl rfl (by decide) (by decide) (argsL := []) (rest := []) rfl (fun v32 h31 q33 => ?_)
          obtain ⟨rfl, rfl⟩ := q33
          refine G.cast (st' := [(.int (own_dc (a &&& (1073741823 : Int32)) (((a &&& (1073741823 : Int32)) + (b &&& (268435455 : Int32))) - (1 : Int32)) (a &&& (1073741823 : Int32))))]) ?_ rfl
          refine g_iload cx d0_157 rfl ?_
          refine g_icmp_ne cx d0_159 (fun hc159 => ?_) (fun hc159 => ?_)
          · refine g_iconst cx d0_166 (v := (0 : Int32)) rfl ?_
            refine g_retZ cx d0_167 rfl rfl (by decide) (by decide) ?_
            exact absurd (own_L3 _ _ (d &&& 268435455) (own_r a b d).1 (own_r a b d).2.1 (own_r a b d).2.2 hc106) hc159
          · refine g_iconst cx d0_162 (v := (1 : Int32)) rfl ?_
            refine g_goto cx d0_163 ?_
            refine g_retZ cx d0_167 rfl rfl (by decide) (by decide) ?_
            rfl
        · refine g_iconst cx d0_134 (v := (1 : Int32)) rfl ?_
          refine g_goto cx d0_135 ?_
          refine g_iload cx d0_139 rfl ?_
          refine g_iload cx d0_141 rfl ?_
          refine g_iload cx d0_143 rfl ?_
          refine g_lload cx d0_145 rfl ?_
          refine g_special cx (y := (⟨"com/example/crisp_typedef/crisptypedef/NumberText$Significand", "<init>", "(ZIIIJ)V"⟩ : MethodName)) (a := b22) d0_147 rfl rfl (hw _ (List.mem_of_getElem? (i := 6) rfl)) (hw _ (List.mem_of_getElem? (i := 7) rfl)) (hw _ (List.mem_of_getElem? (i := 5) rfl)) (hw _ (List.mem_of_getElem? (i := 8) rfl)) (by decide) (bytes := prog_22_method_1_code) (maxL' := 7) (M := (rm2 l Z a0 hw b22 ((1 : Int32)) ((a &&& (1073741823 : Int32))) ((((a &&& (1073741823 : Int32)) + (b &&& (268435455 : Int32))) - (1 : Int32))) ((a &&& (1073741823 : Int32))) pw _ O_b22 g_b22 OL)) rfl (lenOf pd_1 rfl) (by decide) (W := 1) (Nat.le_of_eq rfl) (by decide) (k' := 1) (n' := 5) rfl rfl (by decide) (by decide) (argsL := [(.int (1 : Int32)), (.int (a &&& (1073741823 : Int32))), (.int (((a &&& (1073741823 : Int32)) + (b &&& (268435455 : Int32))) - (1 : Int32))), (.int (a &&& (1073741823 : Int32))), (.long pw)]) (rest := [(.ref b22)]) rfl (fun v36 h35 q37 => ?_)
          obtain ⟨rfl, K34, O_b22⟩ := q37
          have OL := OL.keep K34 (allS g_b22 all0)
          refine G.cast (st' := [(.ref b22)]) ?_ rfl
          refine g_astore cx d0_150 rfl (Ls' := #[.val (.int a), .val (.int b), .val (.int mm), .val (.int d), .val (.int fl), .val (.long pw), .second, .val (.int (a &&& (1073741823 : Int32))), .val (.int (b &&& (268435455 : Int32))), .val (.int (d &&& (268435455 : Int32))), .val (.int ((mm &&& (2147483647 : Int32)) % (3 : Int32))), .val (.int (((a &&& (1073741823 : Int32)) + (b &&& (268435455 : Int32))) - (1 : Int32))), .val (.int (a &&& (1073741823 : Int32))), .val (.ref b22)]) rfl ?_
          refine g_aload cx d0_152 rfl rfl ?_
          refine g_virtual cx (y := (⟨"com/example/crisp_typedef/crisptypedef/NumberText$Significand", "digitCount", "()I"⟩ : MethodName)) (z := (⟨"com/example/crisp_typedef/crisptypedef/NumberText$Significand", "digitCount", "()I"⟩ : MethodName)) (a := b22) d0_154 (hw _ (List.mem_of_getElem? (i := 27) rfl)) (hw _ (List.mem_of_getElem? (i := 28) rfl)) (hw _ (List.mem_of_getElem? (i := 5) rfl)) (hw _ (List.mem_of_getElem? (i := 31) rfl)) (hw _ (List.mem_of_getElem? (i := 30) rfl)) (hw _ (List.mem_of_getElem? (i := 29) rfl)) rfl (by decide) O_b22.1 (bytes := prog_22_method_3_code) (maxL' := 1) (M := (rm3 l Z a0 hw _ _ _ _ _ _ _ O_b22)) rfl (lenOf pd_2 rfl) (by decide) (W := 0) (Nat.le_of_eq rfl) (by decide) (k' := 1) (n' := 5) rfl rfl (by decide) (by decide) (argsL := []) (rest := []) rfl (fun v39 h38 q40 => ?_)
          obtain ⟨rfl, rfl⟩ := q40
          refine G.cast (st' := [(.int (own_dc (a &&& (1073741823 : Int32)) (((a &&& (1073741823 : Int32)) + (b &&& (268435455 : Int32))) - (1 : Int32)) (a &&& (1073741823 : Int32))))]) ?_ rfl
          refine g_iload cx d0_157 rfl ?_
          refine g_icmp_ne cx d0_159 (fun hc159 => ?_) (fun hc159 => ?_)
          · refine g_iconst cx d0_166 (v := (0 : Int32)) rfl ?_
            refine g_retZ cx d0_167 rfl rfl (by decide) (by decide) ?_
            exact absurd (own_L3 _ _ (d &&& 268435455) (own_r a b d).1 (own_r a b d).2.1 (own_r a b d).2.2 hc106) hc159
          · refine g_iconst cx d0_162 (v := (1 : Int32)) rfl ?_
            refine g_goto cx d0_163 ?_
            refine g_retZ cx d0_167 rfl rfl (by decide) (by decide) ?_
            rfl
    · refine g_iload cx d0_61 rfl ?_
      refine g_iconst cx d0_63 (v := (2 : Int32)) rfl ?_
      refine g_icmp_lt cx d0_64 (fun hc64 => ?_) (fun hc64 => ?_)
      · refine g_iload cx d0_95 rfl ?_
        refine g_iload cx d0_97 rfl ?_
        refine g_iadd cx d0_99 ?_
        refine g_iconst cx d0_100 (v := (1 : Int32)) rfl ?_
        refine g_isub cx d0_101 ?_
        refine g_istore cx d0_102 (Ls' := #[.val (.int a), .val (.int b), .val (.int mm), .val (.int d), .val (.int fl), .val (.long pw), .second, .val (.int (a &&& (1073741823 : Int32))), .val (.int (b &&& (268435455 : Int32))), .val (.int (d &&& (268435455 : Int32))), .val (.int ((mm &&& (2147483647 : Int32)) % (3 : Int32))), .val (.int (((a &&& (1073741823 : Int32)) + (b &&& (268435455 : Int32))) - (1 : Int32))), .unset, .unset]) rfl ?_
        refine g_iload cx d0_104 rfl ?_
        refine g_if_ne cx d0_106 (fun hc106 => ?_) (fun hc106 => ?_)
        · refine g_iload cx d0_114 rfl ?_
          refine g_iconst cx d0_116 (v := (1 : Int32)) rfl ?_
          refine g_iadd cx d0_117 ?_
          refine g_iload cx d0_118 rfl ?_
          refine g_iadd cx d0_120 ?_
          refine g_istore cx d0_121 (Ls' := #[.val (.int a), .val (.int b), .val (.int mm), .val (.int d), .val (.int fl), .val (.long pw), .second, .val (.int (a &&& (1073741823 : Int32))), .val (.int (b &&& (268435455 : Int32))), .val (.int (d &&& (268435455 : Int32))), .val (.int ((mm &&& (2147483647 : Int32)) % (3 : Int32))), .val (.int (((a &&& (1073741823 : Int32)) + (b &&& (268435455 : Int32))) - (1 : Int32))), .val (.int (((((a &&& (1073741823 : Int32)) + (b &&& (268435455 : Int32))) - (1 : Int32)) + (1 : Int32)) + (d &&& (268435455 : Int32)))), .unset]) rfl ?_
          refine g_new cx d0_123 (hw _ (List.mem_of_getElem? (i := 3) rfl)) (hw _ (List.mem_of_getElem? (i := 4) rfl)) (hw _ (List.mem_of_getElem? (i := 5) rfl)) (k' := 1) (n' := 5) rfl rfl (by decide) (by decide) (fun h41 b42 gb43 E44 X45 D46 => ?_)
          have g_b42 : Z.heap.size ≤ b42 := by rw [gb43]; exact OL.2.1
          have OL := OL.ext E44
          have O_b42 := ObB.new hw X45 D46
          refine g_dup cx d0_126 rfl ?_
          refine g_iload cx d0_127 rfl ?_
          refine g_iconst cx d0_129 (v := (1 : Int32)) rfl ?_
          refine g_iand cx d0_130 ?_
          refine g_if_eq cx d0_131 (fun hc131 => ?_) (fun hc131 => ?_)
          · refine g_iconst cx d0_138 (v := (0 : Int32)) rfl ?_
            refine g_iload cx d0_139 rfl ?_
            refine g_iload cx d0_141 rfl ?_
            refine g_iload cx d0_143 rfl ?_
            refine g_lload cx d0_145 rfl ?_
            refine g_special cx (y := (⟨"com/example/crisp_typedef/crisptypedef/NumberText$Significand", "<init>", "(ZIIIJ)V"⟩ : MethodName)) (a := b42) d0_147 rfl rfl (hw _ (List.mem_of_getElem? (i := 6) rfl)) (hw _ (List.mem_of_getElem? (i := 7) rfl)) (hw _ (List.mem_of_getElem? (i := 5) rfl)) (hw _ (List.mem_of_getElem? (i := 8) rfl)) (by decide) (bytes := prog_22_method_1_code) (maxL' := 7) (M := (rm2 l Z a0 hw b42 ((0 : Int32)) ((a &&& (1073741823 : Int32))) ((((a &&& (1073741823 : Int32)) + (b &&& (268435455 : Int32))) - (1 : Int32))) ((((((a &&& (1073741823 : Int32)) + (b &&& (268435455 : Int32))) - (1 : Int32)) + (1 : Int32)) + (d &&& (268435455 : Int32)))) pw _ O_b42 g_b42 OL)) rfl (lenOf pd_1 rfl) (by decide) (W := 1) (Nat.le_of_eq rfl) (by decide) (k' := 1) (n' := 5) rfl rfl (by decide) (by decide) (argsL := [(.int (0 : Int32)), (.int (a &&& (1073741823 : Int32))), (.int (((a &&& (1073741823 : Int32)) + (b &&& (268435455 : Int32))) - (1 : Int32))), (.int (((((a &&& (1073741823 : Int32)) + (b &&& (268435455 : Int32))) - (1 : Int32)) + (1 : Int32)) + (d &&& (268435455 : Int32)))), (.long pw)]) (rest := [(.ref b42)]) rfl (fun v49 h48 q50 => ?_)
            obtain ⟨rfl, K47, O_b42⟩ := q50
            have OL := OL.keep K47 (allS g_b42 all0)
            refine G.cast (st' := [(.ref b42)]) ?_ rfl
            refine g_astore cx d0_150 rfl (Ls' := #[.val (.int a), .val (.int b), .val (.int mm), .val (.int d), .val (.int fl), .val (.long pw), .second, .val (.int (a &&& (1073741823 : Int32))), .val (.int (b &&& (268435455 : Int32))), .val (.int (d &&& (268435455 : Int32))), .val (.int ((mm &&& (2147483647 : Int32)) % (3 : Int32))), .val (.int (((a &&& (1073741823 : Int32)) + (b &&& (268435455 : Int32))) - (1 : Int32))), .val (.int (((((a &&& (1073741823 : Int32)) + (b &&& (268435455 : Int32))) - (1 : Int32)) + (1 : Int32)) + (d &&& (268435455 : Int32)))), .val (.ref b42)]) rfl ?_
            refine g_aload cx d0_152 rfl rfl ?_
            refine g_virtual cx (y := (⟨"com/example/crisp_typedef/crisptypedef/NumberText$Significand", "digitCount", "()I"⟩ : MethodName)) (z := (⟨"com/example/crisp_typedef/crisptypedef/NumberText$Significand", "digitCount", "()I"⟩ : MethodName)) (a := b42) d0_154 (hw _ (List.mem_of_getElem? (i := 27) rfl)) (hw _ (List.mem_of_getElem? (i := 28) rfl)) (hw _ (List.mem_of_getElem? (i := 5) rfl)) (hw _ (List.mem_of_getElem? (i := 31) rfl)) (hw _ (List.mem_of_getElem? (i := 30) rfl)) (hw _ (List.mem_of_getElem? (i := 29) rfl)) rfl (by decide) O_b42.1 (bytes := prog_22_method_3_code) (maxL' := 1) (M := (rm3 l Z a0 hw _ _ _ _ _ _ _ O_b42)) rfl (lenOf pd_2 rfl) (by decide) (W := 0) (Nat.le_of_eq rfl) (by decide) (k' := 1) (n' := 5) rfl rfl (by decide) (by decide) (argsL := []) (rest := []) rfl (fun v52 h51 q53 => ?_)
            obtain ⟨rfl, rfl⟩ := q53
            refine G.cast (st' := [(.int (own_dc (a &&& (1073741823 : Int32)) (((a &&& (1073741823 : Int32)) + (b &&& (268435455 : Int32))) - (1 : Int32)) (((((a &&& (1073741823 : Int32)) + (b &&& (268435455 : Int32))) - (1 : Int32)) + (1 : Int32)) + (d &&& (268435455 : Int32)))))]) ?_ rfl
            refine g_iload cx d0_157 rfl ?_
            refine g_icmp_ne cx d0_159 (fun hc159 => ?_) (fun hc159 => ?_)
            · refine g_iconst cx d0_166 (v := (0 : Int32)) rfl ?_
              refine g_retZ cx d0_167 rfl rfl (by decide) (by decide) ?_
              exact absurd (own_L4 _ _ _ (own_r a b d).1 (own_r a b d).2.1 (own_r a b d).2.2 hc106) hc159
            · refine g_iconst cx d0_162 (v := (1 : Int32)) rfl ?_
              refine g_goto cx d0_163 ?_
              refine g_retZ cx d0_167 rfl rfl (by decide) (by decide) ?_
              rfl
          · refine g_iconst cx d0_134 (v := (1 : Int32)) rfl ?_
            refine g_goto cx d0_135 ?_
            refine g_iload cx d0_139 rfl ?_
            refine g_iload cx d0_141 rfl ?_
            refine g_iload cx d0_143 rfl ?_
            refine g_lload cx d0_145 rfl ?_
            refine g_special cx (y := (⟨"com/example/crisp_typedef/crisptypedef/NumberText$Significand", "<init>", "(ZIIIJ)V"⟩ : MethodName)) (a := b42) d0_147 rfl rfl (hw _ (List.mem_of_getElem? (i := 6) rfl)) (hw _ (List.mem_of_getElem? (i := 7) rfl)) (hw _ (List.mem_of_getElem? (i := 5) rfl)) (hw _ (List.mem_of_getElem? (i := 8) rfl)) (by decide) (bytes := prog_22_method_1_code) (maxL' := 7) (M := (rm2 l Z a0 hw b42 ((1 : Int32)) ((a &&& (1073741823 : Int32))) ((((a &&& (1073741823 : Int32)) + (b &&& (268435455 : Int32))) - (1 : Int32))) ((((((a &&& (1073741823 : Int32)) + (b &&& (268435455 : Int32))) - (1 : Int32)) + (1 : Int32)) + (d &&& (268435455 : Int32)))) pw _ O_b42 g_b42 OL)) rfl (lenOf pd_1 rfl) (by decide) (W := 1) (Nat.le_of_eq rfl) (by decide) (k' := 1) (n' := 5) rfl rfl (by decide) (by decide) (argsL := [(.int (1 : Int32)), (.int (a &&& (1073741823 : Int32))), (.int (((a &&& (1073741823 : Int32)) + (b &&& (268435455 : Int32))) - (1 : Int32))), (.int (((((a &&& (1073741823 : Int32)) + (b &&& (268435455 : Int32))) - (1 : Int32)) + (1 : Int32)) + (d &&& (268435455 : Int32)))), (.long pw)]) (rest := [(.ref b42)]) rfl (fun v56 h55 q57 => ?_)
            obtain ⟨rfl, K54, O_b42⟩ := q57
            have OL := OL.keep K54 (allS g_b42 all0)
            refine G.cast (st' := [(.ref b42)]) ?_ rfl
            refine g_astore cx d0_150 rfl (Ls' := #[.val (.int a), .val (.int b), .val (.int mm), .val (.int d), .val (.int fl), .val (.long pw), .second, .val (.int (a &&& (1073741823 : Int32))), .val (.int (b &&& (268435455 : Int32))), .val (.int (d &&& (268435455 : Int32))), .val (.int ((mm &&& (2147483647 : Int32)) % (3 : Int32))), .val (.int (((a &&& (1073741823 : Int32)) + (b &&& (268435455 : Int32))) - (1 : Int32))), .val (.int (((((a &&& (1073741823 : Int32)) + (b &&& (268435455 : Int32))) - (1 : Int32)) + (1 : Int32)) + (d &&& (268435455 : Int32)))), .val (.ref b42)]) rfl ?_
            refine g_aload cx d0_152 rfl rfl ?_
            refine g_virtual cx (y := (⟨"com/example/crisp_typedef/crisptypedef/NumberText$Significand", "digitCount", "()I"⟩ : MethodName)) (z := (⟨"com/example/crisp_typedef/crisptypedef/NumberText$Significand", "digitCount", "()I"⟩ : MethodName)) (a := b42) d0_154 (hw _ (List.mem_of_getElem? (i := 27) rfl)) (hw _ (List.mem_of_getElem? (i := 28) rfl)) (hw _ (List.mem_of_getElem? (i := 5) rfl)) (hw _ (List.mem_of_getElem? (i := 31) rfl)) (hw _ (List.mem_of_getElem? (i := 30) rfl)) (hw _ (List.mem_of_getElem? (i := 29) rfl)) rfl (by decide) O_b42.1 (bytes := prog_22_method_3_code) (maxL' := 1) (M := (rm3 l Z a0 hw _ _ _ _ _ _ _ O_b42)) rfl (lenOf pd_2 rfl) (by decide) (W := 0) (Nat.le_of_eq rfl) (by decide) (k' := 1) (n' := 5) rfl rfl (by decide) (by decide) (argsL := []) (rest := []) rfl (fun v59 h58 q60 => ?_)
            obtain ⟨rfl, rfl⟩ := q60
            refine G.cast (st' := [(.int (own_dc (a &&& (1073741823 : Int32)) (((a &&& (1073741823 : Int32)) + (b &&& (268435455 : Int32))) - (1 : Int32)) (((((a &&& (1073741823 : Int32)) + (b &&& (268435455 : Int32))) - (1 : Int32)) + (1 : Int32)) + (d &&& (268435455 : Int32)))))]) ?_ rfl
            refine g_iload cx d0_157 rfl ?_
            refine g_icmp_ne cx d0_159 (fun hc159 => ?_) (fun hc159 => ?_)
            · refine g_iconst cx d0_166 (v := (0 : Int32)) rfl ?_
              refine g_retZ cx d0_167 rfl rfl (by decide) (by decide) ?_
              exact absurd (own_L4 _ _ _ (own_r a b d).1 (own_r a b d).2.1 (own_r a b d).2.2 hc106) hc159
            · refine g_iconst cx d0_162 (v := (1 : Int32)) rfl ?_
              refine g_goto cx d0_163 ?_
              refine g_retZ cx d0_167 rfl rfl (by decide) (by decide) ?_
              rfl
        · refine g_iload cx d0_109 rfl ?_
          refine g_goto cx d0_111 ?_
          refine g_istore cx d0_121 (Ls' := #[.val (.int a), .val (.int b), .val (.int mm), .val (.int d), .val (.int fl), .val (.long pw), .second, .val (.int (a &&& (1073741823 : Int32))), .val (.int (b &&& (268435455 : Int32))), .val (.int (d &&& (268435455 : Int32))), .val (.int ((mm &&& (2147483647 : Int32)) % (3 : Int32))), .val (.int (((a &&& (1073741823 : Int32)) + (b &&& (268435455 : Int32))) - (1 : Int32))), .val (.int (a &&& (1073741823 : Int32))), .unset]) rfl ?_
          refine g_new cx d0_123 (hw _ (List.mem_of_getElem? (i := 3) rfl)) (hw _ (List.mem_of_getElem? (i := 4) rfl)) (hw _ (List.mem_of_getElem? (i := 5) rfl)) (k' := 1) (n' := 5) rfl rfl (by decide) (by decide) (fun h61 b62 gb63 E64 X65 D66 => ?_)
          have g_b62 : Z.heap.size ≤ b62 := by rw [gb63]; exact OL.2.1
          have OL := OL.ext E64
          have O_b62 := ObB.new hw X65 D66
          refine g_dup cx d0_126 rfl ?_
          refine g_iload cx d0_127 rfl ?_
          refine g_iconst cx d0_129 (v := (1 : Int32)) rfl ?_
          refine g_iand cx d0_130 ?_
          refine g_if_eq cx d0_131 (fun hc131 => ?_) (fun hc131 => ?_)
          · refine g_iconst cx d0_138 (v := (0 : Int32)) rfl ?_
            refine g_iload cx d0_139 rfl ?_
            refine g_iload cx d0_141 rfl ?_
            refine g_iload cx d0_143 rfl ?_
            refine g_lload cx d0_145 rfl ?_
            refine g_special cx (y := (⟨"com/example/crisp_typedef/crisptypedef/NumberText$Significand", "<init>", "(ZIIIJ)V"⟩ : MethodName)) (a := b62) d0_147 rfl rfl (hw _ (List.mem_of_getElem? (i := 6) rfl)) (hw _ (List.mem_of_getElem? (i := 7) rfl)) (hw _ (List.mem_of_getElem? (i := 5) rfl)) (hw _ (List.mem_of_getElem? (i := 8) rfl)) (by decide) (bytes := prog_22_method_1_code) (maxL' := 7) (M := (rm2 l Z a0 hw b62 ((0 : Int32)) ((a &&& (1073741823 : Int32))) ((((a &&& (1073741823 : Int32)) + (b &&& (268435455 : Int32))) - (1 : Int32))) ((a &&& (1073741823 : Int32))) pw _ O_b62 g_b62 OL)) rfl (lenOf pd_1 rfl) (by decide) (W := 1) (Nat.le_of_eq rfl) (by decide) (k' := 1) (n' := 5) rfl rfl (by decide) (by decide) (argsL := [(.int (0 : Int32)), (.int (a &&& (1073741823 : Int32))), (.int (((a &&& (1073741823 : Int32)) + (b &&& (268435455 : Int32))) - (1 : Int32))), (.int (a &&& (1073741823 : Int32))), (.long pw)]) (rest := [(.ref b62)]) rfl (fun v69 h68 q70 => ?_)
            obtain ⟨rfl, K67, O_b62⟩ := q70
            have OL := OL.keep K67 (allS g_b62 all0)
            refine G.cast (st' := [(.ref b62)]) ?_ rfl
            refine g_astore cx d0_150 rfl (Ls' := #[.val (.int a), .val (.int b), .val (.int mm), .val (.int d), .val (.int fl), .val (.long pw), .second, .val (.int (a &&& (1073741823 : Int32))), .val (.int (b &&& (268435455 : Int32))), .val (.int (d &&& (268435455 : Int32))), .val (.int ((mm &&& (2147483647 : Int32)) % (3 : Int32))), .val (.int (((a &&& (1073741823 : Int32)) + (b &&& (268435455 : Int32))) - (1 : Int32))), .val (.int (a &&& (1073741823 : Int32))), .val (.ref b62)]) rfl ?_
            refine g_aload cx d0_152 rfl rfl ?_
            refine g_virtual cx (y := (⟨"com/example/crisp_typedef/crisptypedef/NumberText$Significand", "digitCount", "()I"⟩ : MethodName)) (z := (⟨"com/example/crisp_typedef/crisptypedef/NumberText$Significand", "digitCount", "()I"⟩ : MethodName)) (a := b62) d0_154 (hw _ (List.mem_of_getElem? (i := 27) rfl)) (hw _ (List.mem_of_getElem? (i := 28) rfl)) (hw _ (List.mem_of_getElem? (i := 5) rfl)) (hw _ (List.mem_of_getElem? (i := 31) rfl)) (hw _ (List.mem_of_getElem? (i := 30) rfl)) (hw _ (List.mem_of_getElem? (i := 29) rfl)) rfl (by decide) O_b62.1 (bytes := prog_22_method_3_code) (maxL' := 1) (M := (rm3 l Z a0 hw _ _ _ _ _ _ _ O_b62)) rfl (lenOf pd_2 rfl) (by decide) (W := 0) (Nat.le_of_eq rfl) (by decide) (k' := 1) (n' := 5) rfl rfl (by decide) (by decide) (argsL := []) (rest := []) rfl (fun v72 h71 q73 => ?_)
            obtain ⟨rfl, rfl⟩ := q73
            refine G.cast (st' := [(.int (own_dc (a &&& (1073741823 : Int32)) (((a &&& (1073741823 : Int32)) + (b &&& (268435455 : Int32))) - (1 : Int32)) (a &&& (1073741823 : Int32))))]) ?_ rfl
            refine g_iload cx d0_157 rfl ?_
            refine g_icmp_ne cx d0_159 (fun hc159 => ?_) (fun hc159 => ?_)
            · refine g_iconst cx d0_166 (v := (0 : Int32)) rfl ?_
              refine g_retZ cx d0_167 rfl rfl (by decide) (by decide) ?_
              exact absurd (own_L3 _ _ (d &&& 268435455) (own_r a b d).1 (own_r a b d).2.1 (own_r a b d).2.2 hc106) hc159
            · refine g_iconst cx d0_162 (v := (1 : Int32)) rfl ?_
              refine g_goto cx d0_163 ?_
              refine g_retZ cx d0_167 rfl rfl (by decide) (by decide) ?_
              rfl
          · refine g_iconst cx d0_134 (v := (1 : Int32)) rfl ?_
            refine g_goto cx d0_135 ?_
            refine g_iload cx d0_139 rfl ?_
            refine g_iload cx d0_141 rfl ?_
            refine g_iload cx d0_143 rfl ?_
            refine g_lload cx d0_145 rfl ?_
            refine g_special cx (y := (⟨"com/example/crisp_typedef/crisptypedef/NumberText$Significand", "<init>", "(ZIIIJ)V"⟩ : MethodName)) (a := b62) d0_147 rfl rfl (hw _ (List.mem_of_getElem? (i := 6) rfl)) (hw _ (List.mem_of_getElem? (i := 7) rfl)) (hw _ (List.mem_of_getElem? (i := 5) rfl)) (hw _ (List.mem_of_getElem? (i := 8) rfl)) (by decide) (bytes := prog_22_method_1_code) (maxL' := 7) (M := (rm2 l Z a0 hw b62 ((1 : Int32)) ((a &&& (1073741823 : Int32))) ((((a &&& (1073741823 : Int32)) + (b &&& (268435455 : Int32))) - (1 : Int32))) ((a &&& (1073741823 : Int32))) pw _ O_b62 g_b62 OL)) rfl (lenOf pd_1 rfl) (by decide) (W := 1) (Nat.le_of_eq rfl) (by decide) (k' := 1) (n' := 5) rfl rfl (by decide) (by decide) (argsL := [(.int (1 : Int32)), (.int (a &&& (1073741823 : Int32))), (.int (((a &&& (1073741823 : Int32)) + (b &&& (268435455 : Int32))) - (1 : Int32))), (.int (a &&& (1073741823 : Int32))), (.long pw)]) (rest := [(.ref b62)]) rfl (fun v76 h75 q77 => ?_)
            obtain ⟨rfl, K74, O_b62⟩ := q77
            have OL := OL.keep K74 (allS g_b62 all0)
            refine G.cast (st' := [(.ref b62)]) ?_ rfl
            refine g_astore cx d0_150 rfl (Ls' := #[.val (.int a), .val (.int b), .val (.int mm), .val (.int d), .val (.int fl), .val (.long pw), .second, .val (.int (a &&& (1073741823 : Int32))), .val (.int (b &&& (268435455 : Int32))), .val (.int (d &&& (268435455 : Int32))), .val (.int ((mm &&& (2147483647 : Int32)) % (3 : Int32))), .val (.int (((a &&& (1073741823 : Int32)) + (b &&& (268435455 : Int32))) - (1 : Int32))), .val (.int (a &&& (1073741823 : Int32))), .val (.ref b62)]) rfl ?_
            refine g_aload cx d0_152 rfl rfl ?_
            refine g_virtual cx (y := (⟨"com/example/crisp_typedef/crisptypedef/NumberText$Significand", "digitCount", "()I"⟩ : MethodName)) (z := (⟨"com/example/crisp_typedef/crisptypedef/NumberText$Significand", "digitCount", "()I"⟩ : MethodName)) (a := b62) d0_154 (hw _ (List.mem_of_getElem? (i := 27) rfl)) (hw _ (List.mem_of_getElem? (i := 28) rfl)) (hw _ (List.mem_of_getElem? (i := 5) rfl)) (hw _ (List.mem_of_getElem? (i := 31) rfl)) (hw _ (List.mem_of_getElem? (i := 30) rfl)) (hw _ (List.mem_of_getElem? (i := 29) rfl)) rfl (by decide) O_b62.1 (bytes := prog_22_method_3_code) (maxL' := 1) (M := (rm3 l Z a0 hw _ _ _ _ _ _ _ O_b62)) rfl (lenOf pd_2 rfl) (by decide) (W := 0) (Nat.le_of_eq rfl) (by decide) (k' := 1) (n' := 5) rfl rfl (by decide) (by decide) (argsL := []) (rest := []) rfl (fun v79 h78 q80 => ?_)
            obtain ⟨rfl, rfl⟩ := q80
            refine G.cast (st' := [(.int (own_dc (a &&& (1073741823 : Int32)) (((a &&& (1073741823 : Int32)) + (b &&& (268435455 : Int32))) - (1 : Int32)) (a &&& (1073741823 : Int32))))]) ?_ rfl
            refine g_iload cx d0_157 rfl ?_
            refine g_icmp_ne cx d0_159 (fun hc159 => ?_) (fun hc159 => ?_)
            · refine g_iconst cx d0_166 (v := (0 : Int32)) rfl ?_
              refine g_retZ cx d0_167 rfl rfl (by decide) (by decide) ?_
              exact absurd (own_L3 _ _ (d &&& 268435455) (own_r a b d).1 (own_r a b d).2.1 (own_r a b d).2.2 hc106) hc159
            · refine g_iconst cx d0_162 (v := (1 : Int32)) rfl ?_
              refine g_goto cx d0_163 ?_
              refine g_retZ cx d0_167 rfl rfl (by decide) (by decide) ?_
              rfl
      · refine g_iconst cx d0_67 (v := (1 : Int32)) rfl ?_
        refine g_iload cx d0_68 rfl ?_
        refine g_iload cx d0_70 rfl ?_
        refine g_iconst cx d0_72 (v := (1 : Int32)) rfl ?_
        refine g_isub cx d0_73 ?_
        refine g_irem cx d0_74 (own_nz _ hc64) ?_
        refine g_iadd cx d0_75 ?_
        refine g_istore cx d0_76 (Ls' := #[.val (.int a), .val (.int b), .val (.int mm), .val (.int d), .val (.int fl), .val (.long pw), .second, .val (.int (a &&& (1073741823 : Int32))), .val (.int (b &&& (268435455 : Int32))), .val (.int (d &&& (268435455 : Int32))), .val (.int ((mm &&& (2147483647 : Int32)) % (3 : Int32))), .unset, .unset, .val (.int ((1 : Int32) + ((d &&& (268435455 : Int32)) % ((b &&& (268435455 : Int32)) - (1 : Int32)))))]) rfl ?_
        refine g_iload cx d0_78 rfl ?_
        refine g_iload cx d0_80 rfl ?_
        refine g_iadd cx d0_82 ?_
        refine g_istore cx d0_83 (Ls' := #[.val (.int a), .val (.int b), .val (.int mm), .val (.int d), .val (.int fl), .val (.long pw), .second, .val (.int (a &&& (1073741823 : Int32))), .val (.int (b &&& (268435455 : Int32))), .val (.int (d &&& (268435455 : Int32))), .val (.int ((mm &&& (2147483647 : Int32)) % (3 : Int32))), .unset, .val (.int ((a &&& (1073741823 : Int32)) + ((1 : Int32) + ((d &&& (268435455 : Int32)) % ((b &&& (268435455 : Int32)) - (1 : Int32)))))), .val (.int ((1 : Int32) + ((d &&& (268435455 : Int32)) % ((b &&& (268435455 : Int32)) - (1 : Int32)))))]) rfl ?_
        refine g_iload cx d0_85 rfl ?_
        refine g_iload cx d0_87 rfl ?_
        refine g_iadd cx d0_89 ?_
        refine g_istore cx d0_90 (Ls' := #[.val (.int a), .val (.int b), .val (.int mm), .val (.int d), .val (.int fl), .val (.long pw), .second, .val (.int (a &&& (1073741823 : Int32))), .val (.int (b &&& (268435455 : Int32))), .val (.int (d &&& (268435455 : Int32))), .val (.int ((mm &&& (2147483647 : Int32)) % (3 : Int32))), .val (.int ((a &&& (1073741823 : Int32)) + (b &&& (268435455 : Int32)))), .val (.int ((a &&& (1073741823 : Int32)) + ((1 : Int32) + ((d &&& (268435455 : Int32)) % ((b &&& (268435455 : Int32)) - (1 : Int32)))))), .val (.int ((1 : Int32) + ((d &&& (268435455 : Int32)) % ((b &&& (268435455 : Int32)) - (1 : Int32)))))]) rfl ?_
        refine g_goto cx d0_92 ?_
        refine g_new cx d0_123 (hw _ (List.mem_of_getElem? (i := 3) rfl)) (hw _ (List.mem_of_getElem? (i := 4) rfl)) (hw _ (List.mem_of_getElem? (i := 5) rfl)) (k' := 1) (n' := 5) rfl rfl (by decide) (by decide) (fun h81 b82 gb83 E84 X85 D86 => ?_)
        have g_b82 : Z.heap.size ≤ b82 := by rw [gb83]; exact OL.2.1
        have OL := OL.ext E84
        have O_b82 := ObB.new hw X85 D86
        refine g_dup cx d0_126 rfl ?_
        refine g_iload cx d0_127 rfl ?_
        refine g_iconst cx d0_129 (v := (1 : Int32)) rfl ?_
        refine g_iand cx d0_130 ?_
        refine g_if_eq cx d0_131 (fun hc131 => ?_) (fun hc131 => ?_)
        · refine g_iconst cx d0_138 (v := (0 : Int32)) rfl ?_
          refine g_iload cx d0_139 rfl ?_
          refine g_iload cx d0_141 rfl ?_
          refine g_iload cx d0_143 rfl ?_
          refine g_lload cx d0_145 rfl ?_
          refine g_special cx (y := (⟨"com/example/crisp_typedef/crisptypedef/NumberText$Significand", "<init>", "(ZIIIJ)V"⟩ : MethodName)) (a := b82) d0_147 rfl rfl (hw _ (List.mem_of_getElem? (i := 6) rfl)) (hw _ (List.mem_of_getElem? (i := 7) rfl)) (hw _ (List.mem_of_getElem? (i := 5) rfl)) (hw _ (List.mem_of_getElem? (i := 8) rfl)) (by decide) (bytes := prog_22_method_1_code) (maxL' := 7) (M := (rm2 l Z a0 hw b82 ((0 : Int32)) ((a &&& (1073741823 : Int32))) (((a &&& (1073741823 : Int32)) + (b &&& (268435455 : Int32)))) (((a &&& (1073741823 : Int32)) + ((1 : Int32) + ((d &&& (268435455 : Int32)) % ((b &&& (268435455 : Int32)) - (1 : Int32)))))) pw _ O_b82 g_b82 OL)) rfl (lenOf pd_1 rfl) (by decide) (W := 1) (Nat.le_of_eq rfl) (by decide) (k' := 1) (n' := 5) rfl rfl (by decide) (by decide) (argsL := [(.int (0 : Int32)), (.int (a &&& (1073741823 : Int32))), (.int ((a &&& (1073741823 : Int32)) + (b &&& (268435455 : Int32)))), (.int ((a &&& (1073741823 : Int32)) + ((1 : Int32) + ((d &&& (268435455 : Int32)) % ((b &&& (268435455 : Int32)) - (1 : Int32)))))), (.long pw)]) (rest := [(.ref b82)]) rfl (fun v89 h88 q90 => ?_)
          obtain ⟨rfl, K87, O_b82⟩ := q90
          have OL := OL.keep K87 (allS g_b82 all0)
          refine G.cast (st' := [(.ref b82)]) ?_ rfl
          refine g_astore cx d0_150 rfl (Ls' := #[.val (.int a), .val (.int b), .val (.int mm), .val (.int d), .val (.int fl), .val (.long pw), .second, .val (.int (a &&& (1073741823 : Int32))), .val (.int (b &&& (268435455 : Int32))), .val (.int (d &&& (268435455 : Int32))), .val (.int ((mm &&& (2147483647 : Int32)) % (3 : Int32))), .val (.int ((a &&& (1073741823 : Int32)) + (b &&& (268435455 : Int32)))), .val (.int ((a &&& (1073741823 : Int32)) + ((1 : Int32) + ((d &&& (268435455 : Int32)) % ((b &&& (268435455 : Int32)) - (1 : Int32)))))), .val (.ref b82)]) rfl ?_
          refine g_aload cx d0_152 rfl rfl ?_
          refine g_virtual cx (y := (⟨"com/example/crisp_typedef/crisptypedef/NumberText$Significand", "digitCount", "()I"⟩ : MethodName)) (z := (⟨"com/example/crisp_typedef/crisptypedef/NumberText$Significand", "digitCount", "()I"⟩ : MethodName)) (a := b82) d0_154 (hw _ (List.mem_of_getElem? (i := 27) rfl)) (hw _ (List.mem_of_getElem? (i := 28) rfl)) (hw _ (List.mem_of_getElem? (i := 5) rfl)) (hw _ (List.mem_of_getElem? (i := 31) rfl)) (hw _ (List.mem_of_getElem? (i := 30) rfl)) (hw _ (List.mem_of_getElem? (i := 29) rfl)) rfl (by decide) O_b82.1 (bytes := prog_22_method_3_code) (maxL' := 1) (M := (rm3 l Z a0 hw _ _ _ _ _ _ _ O_b82)) rfl (lenOf pd_2 rfl) (by decide) (W := 0) (Nat.le_of_eq rfl) (by decide) (k' := 1) (n' := 5) rfl rfl (by decide) (by decide) (argsL := []) (rest := []) rfl (fun v92 h91 q93 => ?_)
          obtain ⟨rfl, rfl⟩ := q93
          refine G.cast (st' := [(.int (own_dc (a &&& (1073741823 : Int32)) ((a &&& (1073741823 : Int32)) + (b &&& (268435455 : Int32))) ((a &&& (1073741823 : Int32)) + ((1 : Int32) + ((d &&& (268435455 : Int32)) % ((b &&& (268435455 : Int32)) - (1 : Int32)))))))]) ?_ rfl
          refine g_iload cx d0_157 rfl ?_
          refine g_icmp_ne cx d0_159 (fun hc159 => ?_) (fun hc159 => ?_)
          · refine g_iconst cx d0_166 (v := (0 : Int32)) rfl ?_
            refine g_retZ cx d0_167 rfl rfl (by decide) (by decide) ?_
            exact absurd (own_L2 _ _ _ (own_r a b d).1 (own_r a b d).2.1 (own_r a b d).2.2 hc64) hc159
          · refine g_iconst cx d0_162 (v := (1 : Int32)) rfl ?_
            refine g_goto cx d0_163 ?_
            refine g_retZ cx d0_167 rfl rfl (by decide) (by decide) ?_
            rfl
        · refine g_iconst cx d0_134 (v := (1 : Int32)) rfl ?_
          refine g_goto cx d0_135 ?_
          refine g_iload cx d0_139 rfl ?_
          refine g_iload cx d0_141 rfl ?_
          refine g_iload cx d0_143 rfl ?_
          refine g_lload cx d0_145 rfl ?_
          refine g_special cx (y := (⟨"com/example/crisp_typedef/crisptypedef/NumberText$Significand", "<init>", "(ZIIIJ)V"⟩ : MethodName)) (a := b82) d0_147 rfl rfl (hw _ (List.mem_of_getElem? (i := 6) rfl)) (hw _ (List.mem_of_getElem? (i := 7) rfl)) (hw _ (List.mem_of_getElem? (i := 5) rfl)) (hw _ (List.mem_of_getElem? (i := 8) rfl)) (by decide) (bytes := prog_22_method_1_code) (maxL' := 7) (M := (rm2 l Z a0 hw b82 ((1 : Int32)) ((a &&& (1073741823 : Int32))) (((a &&& (1073741823 : Int32)) + (b &&& (268435455 : Int32)))) (((a &&& (1073741823 : Int32)) + ((1 : Int32) + ((d &&& (268435455 : Int32)) % ((b &&& (268435455 : Int32)) - (1 : Int32)))))) pw _ O_b82 g_b82 OL)) rfl (lenOf pd_1 rfl) (by decide) (W := 1) (Nat.le_of_eq rfl) (by decide) (k' := 1) (n' := 5) rfl rfl (by decide) (by decide) (argsL := [(.int (1 : Int32)), (.int (a &&& (1073741823 : Int32))), (.int ((a &&& (1073741823 : Int32)) + (b &&& (268435455 : Int32)))), (.int ((a &&& (1073741823 : Int32)) + ((1 : Int32) + ((d &&& (268435455 : Int32)) % ((b &&& (268435455 : Int32)) - (1 : Int32)))))), (.long pw)]) (rest := [(.ref b82)]) rfl (fun v96 h95 q97 => ?_)
          obtain ⟨rfl, K94, O_b82⟩ := q97
          have OL := OL.keep K94 (allS g_b82 all0)
          refine G.cast (st' := [(.ref b82)]) ?_ rfl
          refine g_astore cx d0_150 rfl (Ls' := #[.val (.int a), .val (.int b), .val (.int mm), .val (.int d), .val (.int fl), .val (.long pw), .second, .val (.int (a &&& (1073741823 : Int32))), .val (.int (b &&& (268435455 : Int32))), .val (.int (d &&& (268435455 : Int32))), .val (.int ((mm &&& (2147483647 : Int32)) % (3 : Int32))), .val (.int ((a &&& (1073741823 : Int32)) + (b &&& (268435455 : Int32)))), .val (.int ((a &&& (1073741823 : Int32)) + ((1 : Int32) + ((d &&& (268435455 : Int32)) % ((b &&& (268435455 : Int32)) - (1 : Int32)))))), .val (.ref b82)]) rfl ?_
          refine g_aload cx d0_152 rfl rfl ?_
          refine g_virtual cx (y := (⟨"com/example/crisp_typedef/crisptypedef/NumberText$Significand", "digitCount", "()I"⟩ : MethodName)) (z := (⟨"com/example/crisp_typedef/crisptypedef/NumberText$Significand", "digitCount", "()I"⟩ : MethodName)) (a := b82) d0_154 (hw _ (List.mem_of_getElem? (i := 27) rfl)) (hw _ (List.mem_of_getElem? (i := 28) rfl)) (hw _ (List.mem_of_getElem? (i := 5) rfl)) (hw _ (List.mem_of_getElem? (i := 31) rfl)) (hw _ (List.mem_of_getElem? (i := 30) rfl)) (hw _ (List.mem_of_getElem? (i := 29) rfl)) rfl (by decide) O_b82.1 (bytes := prog_22_method_3_code) (maxL' := 1) (M := (rm3 l Z a0 hw _ _ _ _ _ _ _ O_b82)) rfl (lenOf pd_2 rfl) (by decide) (W := 0) (Nat.le_of_eq rfl) (by decide) (k' := 1) (n' := 5) rfl rfl (by decide) (by decide) (argsL := []) (rest := []) rfl (fun v99 h98 q100 => ?_)
          obtain ⟨rfl, rfl⟩ := q100
          refine G.cast (st' := [(.int (own_dc (a &&& (1073741823 : Int32)) ((a &&& (1073741823 : Int32)) + (b &&& (268435455 : Int32))) ((a &&& (1073741823 : Int32)) + ((1 : Int32) + ((d &&& (268435455 : Int32)) % ((b &&& (268435455 : Int32)) - (1 : Int32)))))))]) ?_ rfl
          refine g_iload cx d0_157 rfl ?_
          refine g_icmp_ne cx d0_159 (fun hc159 => ?_) (fun hc159 => ?_)
          · refine g_iconst cx d0_166 (v := (0 : Int32)) rfl ?_
            refine g_retZ cx d0_167 rfl rfl (by decide) (by decide) ?_
            exact absurd (own_L2 _ _ _ (own_r a b d).1 (own_r a b d).2.1 (own_r a b d).2.2 hc64) hc159
          · refine g_iconst cx d0_162 (v := (1 : Int32)) rfl ?_
            refine g_goto cx d0_163 ?_
            refine g_retZ cx d0_167 rfl rfl (by decide) (by decide) ?_
            rfl
  · refine g_iload cx d0_31 rfl ?_
    refine g_if_le cx d0_33 (fun hc33 => ?_) (fun hc33 => ?_)
    · refine g_iload cx d0_55 rfl ?_
      refine g_iconst cx d0_57 (v := (1 : Int32)) rfl ?_
      refine g_icmp_ne cx d0_58 (fun hc58 => ?_) (fun hc58 => ?_)
      · refine g_iload cx d0_95 rfl ?_
        refine g_iload cx d0_97 rfl ?_
        refine g_iadd cx d0_99 ?_
        refine g_iconst cx d0_100 (v := (1 : Int32)) rfl ?_
        refine g_isub cx d0_101 ?_
        refine g_istore cx d0_102 (Ls' := #[.val (.int a), .val (.int b), .val (.int mm), .val (.int d), .val (.int fl), .val (.long pw), .second, .val (.int (a &&& (1073741823 : Int32))), .val (.int (b &&& (268435455 : Int32))), .val (.int (d &&& (268435455 : Int32))), .val (.int ((mm &&& (2147483647 : Int32)) % (3 : Int32))), .val (.int (((a &&& (1073741823 : Int32)) + (b &&& (268435455 : Int32))) - (1 : Int32))), .unset, .unset]) rfl ?_
        refine g_iload cx d0_104 rfl ?_
        refine g_if_ne cx d0_106 (fun hc106 => ?_) (fun hc106 => ?_)
        · refine g_iload cx d0_114 rfl ?_
          refine g_iconst cx d0_116 (v := (1 : Int32)) rfl ?_
          refine g_iadd cx d0_117 ?_
          refine g_iload cx d0_118 rfl ?_
          refine g_iadd cx d0_120 ?_
          refine g_istore cx d0_121 (Ls' := #[.val (.int a), .val (.int b), .val (.int mm), .val (.int d), .val (.int fl), .val (.long pw), .second, .val (.int (a &&& (1073741823 : Int32))), .val (.int (b &&& (268435455 : Int32))), .val (.int (d &&& (268435455 : Int32))), .val (.int ((mm &&& (2147483647 : Int32)) % (3 : Int32))), .val (.int (((a &&& (1073741823 : Int32)) + (b &&& (268435455 : Int32))) - (1 : Int32))), .val (.int (((((a &&& (1073741823 : Int32)) + (b &&& (268435455 : Int32))) - (1 : Int32)) + (1 : Int32)) + (d &&& (268435455 : Int32)))), .unset]) rfl ?_
          refine g_new cx d0_123 (hw _ (List.mem_of_getElem? (i := 3) rfl)) (hw _ (List.mem_of_getElem? (i := 4) rfl)) (hw _ (List.mem_of_getElem? (i := 5) rfl)) (k' := 1) (n' := 5) rfl rfl (by decide) (by decide) (fun h101 b102 gb103 E104 X105 D106 => ?_)
          have g_b102 : Z.heap.size ≤ b102 := by rw [gb103]; exact OL.2.1
          have OL := OL.ext E104
          have O_b102 := ObB.new hw X105 D106
          refine g_dup cx d0_126 rfl ?_
          refine g_iload cx d0_127 rfl ?_
          refine g_iconst cx d0_129 (v := (1 : Int32)) rfl ?_
          refine g_iand cx d0_130 ?_
          refine g_if_eq cx d0_131 (fun hc131 => ?_) (fun hc131 => ?_)
          · refine g_iconst cx d0_138 (v := (0 : Int32)) rfl ?_
            refine g_iload cx d0_139 rfl ?_
            refine g_iload cx d0_141 rfl ?_
            refine g_iload cx d0_143 rfl ?_
            refine g_lload cx d0_145 rfl ?_
            refine g_special cx (y := (⟨"com/example/crisp_typedef/crisptypedef/NumberText$Significand", "<init>", "(ZIIIJ)V"⟩ : MethodName)) (a := b102) d0_147 rfl rfl (hw _ (List.mem_of_getElem? (i := 6) rfl)) (hw _ (List.mem_of_getElem? (i := 7) rfl)) (hw _ (List.mem_of_getElem? (i := 5) rfl)) (hw _ (List.mem_of_getElem? (i := 8) rfl)) (by decide) (bytes := prog_22_method_1_code) (maxL' := 7) (M := (rm2 l Z a0 hw b102 ((0 : Int32)) ((a &&& (1073741823 : Int32))) ((((a &&& (1073741823 : Int32)) + (b &&& (268435455 : Int32))) - (1 : Int32))) ((((((a &&& (1073741823 : Int32)) + (b &&& (268435455 : Int32))) - (1 : Int32)) + (1 : Int32)) + (d &&& (268435455 : Int32)))) pw _ O_b102 g_b102 OL)) rfl (lenOf pd_1 rfl) (by decide) (W := 1) (Nat.le_of_eq rfl) (by decide) (k' := 1) (n' := 5) rfl rfl (by decide) (by decide) (argsL := [(.int (0 : Int32)), (.int (a &&& (1073741823 : Int32))), (.int (((a &&& (1073741823 : Int32)) + (b &&& (268435455 : Int32))) - (1 : Int32))), (.int (((((a &&& (1073741823 : Int32)) + (b &&& (268435455 : Int32))) - (1 : Int32)) + (1 : Int32)) + (d &&& (268435455 : Int32)))), (.long pw)]) (rest := [(.ref b102)]) rfl (fun v109 h108 q110 => ?_)
            obtain ⟨rfl, K107, O_b102⟩ := q110
            have OL := OL.keep K107 (allS g_b102 all0)
            refine G.cast (st' := [(.ref b102)]) ?_ rfl
            refine g_astore cx d0_150 rfl (Ls' := #[.val (.int a), .val (.int b), .val (.int mm), .val (.int d), .val (.int fl), .val (.long pw), .second, .val (.int (a &&& (1073741823 : Int32))), .val (.int (b &&& (268435455 : Int32))), .val (.int (d &&& (268435455 : Int32))), .val (.int ((mm &&& (2147483647 : Int32)) % (3 : Int32))), .val (.int (((a &&& (1073741823 : Int32)) + (b &&& (268435455 : Int32))) - (1 : Int32))), .val (.int (((((a &&& (1073741823 : Int32)) + (b &&& (268435455 : Int32))) - (1 : Int32)) + (1 : Int32)) + (d &&& (268435455 : Int32)))), .val (.ref b102)]) rfl ?_
            refine g_aload cx d0_152 rfl rfl ?_
            refine g_virtual cx (y := (⟨"com/example/crisp_typedef/crisptypedef/NumberText$Significand", "digitCount", "()I"⟩ : MethodName)) (z := (⟨"com/example/crisp_typedef/crisptypedef/NumberText$Significand", "digitCount", "()I"⟩ : MethodName)) (a := b102) d0_154 (hw _ (List.mem_of_getElem? (i := 27) rfl)) (hw _ (List.mem_of_getElem? (i := 28) rfl)) (hw _ (List.mem_of_getElem? (i := 5) rfl)) (hw _ (List.mem_of_getElem? (i := 31) rfl)) (hw _ (List.mem_of_getElem? (i := 30) rfl)) (hw _ (List.mem_of_getElem? (i := 29) rfl)) rfl (by decide) O_b102.1 (bytes := prog_22_method_3_code) (maxL' := 1) (M := (rm3 l Z a0 hw _ _ _ _ _ _ _ O_b102)) rfl (lenOf pd_2 rfl) (by decide) (W := 0) (Nat.le_of_eq rfl) (by decide) (k' := 1) (n' := 5) rfl rfl (by decide) (by decide) (argsL := []) (rest := []) rfl (fun v112 h111 q113 => ?_)
            obtain ⟨rfl, rfl⟩ := q113
            refine G.cast (st' := [(.int (own_dc (a &&& (1073741823 : Int32)) (((a &&& (1073741823 : Int32)) + (b &&& (268435455 : Int32))) - (1 : Int32)) (((((a &&& (1073741823 : Int32)) + (b &&& (268435455 : Int32))) - (1 : Int32)) + (1 : Int32)) + (d &&& (268435455 : Int32)))))]) ?_ rfl
            refine g_iload cx d0_157 rfl ?_
            refine g_icmp_ne cx d0_159 (fun hc159 => ?_) (fun hc159 => ?_)
            · refine g_iconst cx d0_166 (v := (0 : Int32)) rfl ?_
              refine g_retZ cx d0_167 rfl rfl (by decide) (by decide) ?_
              exact absurd (own_L4 _ _ _ (own_r a b d).1 (own_r a b d).2.1 (own_r a b d).2.2 hc106) hc159
            · refine g_iconst cx d0_162 (v := (1 : Int32)) rfl ?_
              refine g_goto cx d0_163 ?_
              refine g_retZ cx d0_167 rfl rfl (by decide) (by decide) ?_
              rfl
          · refine g_iconst cx d0_134 (v := (1 : Int32)) rfl ?_
            refine g_goto cx d0_135 ?_
            refine g_iload cx d0_139 rfl ?_
            refine g_iload cx d0_141 rfl ?_
            refine g_iload cx d0_143 rfl ?_
            refine g_lload cx d0_145 rfl ?_
            refine g_special cx (y := (⟨"com/example/crisp_typedef/crisptypedef/NumberText$Significand", "<init>", "(ZIIIJ)V"⟩ : MethodName)) (a := b102) d0_147 rfl rfl (hw _ (List.mem_of_getElem? (i := 6) rfl)) (hw _ (List.mem_of_getElem? (i := 7) rfl)) (hw _ (List.mem_of_getElem? (i := 5) rfl)) (hw _ (List.mem_of_getElem? (i := 8) rfl)) (by decide) (bytes := prog_22_method_1_code) (maxL' := 7) (M := (rm2 l Z a0 hw b102 ((1 : Int32)) ((a &&& (1073741823 : Int32))) ((((a &&& (1073741823 : Int32)) + (b &&& (268435455 : Int32))) - (1 : Int32))) ((((((a &&& (1073741823 : Int32)) + (b &&& (268435455 : Int32))) - (1 : Int32)) + (1 : Int32)) + (d &&& (268435455 : Int32)))) pw _ O_b102 g_b102 OL)) rfl (lenOf pd_1 rfl) (by decide) (W := 1) (Nat.le_of_eq rfl) (by decide) (k' := 1) (n' := 5) rfl rfl (by decide) (by decide) (argsL := [(.int (1 : Int32)), (.int (a &&& (1073741823 : Int32))), (.int (((a &&& (1073741823 : Int32)) + (b &&& (268435455 : Int32))) - (1 : Int32))), (.int (((((a &&& (1073741823 : Int32)) + (b &&& (268435455 : Int32))) - (1 : Int32)) + (1 : Int32)) + (d &&& (268435455 : Int32)))), (.long pw)]) (rest := [(.ref b102)]) rfl (fun v116 h115 q117 => ?_)
            obtain ⟨rfl, K114, O_b102⟩ := q117
            have OL := OL.keep K114 (allS g_b102 all0)
            refine G.cast (st' := [(.ref b102)]) ?_ rfl
            refine g_astore cx d0_150 rfl (Ls' := #[.val (.int a), .val (.int b), .val (.int mm), .val (.int d), .val (.int fl), .val (.long pw), .second, .val (.int (a &&& (1073741823 : Int32))), .val (.int (b &&& (268435455 : Int32))), .val (.int (d &&& (268435455 : Int32))), .val (.int ((mm &&& (2147483647 : Int32)) % (3 : Int32))), .val (.int (((a &&& (1073741823 : Int32)) + (b &&& (268435455 : Int32))) - (1 : Int32))), .val (.int (((((a &&& (1073741823 : Int32)) + (b &&& (268435455 : Int32))) - (1 : Int32)) + (1 : Int32)) + (d &&& (268435455 : Int32)))), .val (.ref b102)]) rfl ?_
            refine g_aload cx d0_152 rfl rfl ?_
            refine g_virtual cx (y := (⟨"com/example/crisp_typedef/crisptypedef/NumberText$Significand", "digitCount", "()I"⟩ : MethodName)) (z := (⟨"com/example/crisp_typedef/crisptypedef/NumberText$Significand", "digitCount", "()I"⟩ : MethodName)) (a := b102) d0_154 (hw _ (List.mem_of_getElem? (i := 27) rfl)) (hw _ (List.mem_of_getElem? (i := 28) rfl)) (hw _ (List.mem_of_getElem? (i := 5) rfl)) (hw _ (List.mem_of_getElem? (i := 31) rfl)) (hw _ (List.mem_of_getElem? (i := 30) rfl)) (hw _ (List.mem_of_getElem? (i := 29) rfl)) rfl (by decide) O_b102.1 (bytes := prog_22_method_3_code) (maxL' := 1) (M := (rm3 l Z a0 hw _ _ _ _ _ _ _ O_b102)) rfl (lenOf pd_2 rfl) (by decide) (W := 0) (Nat.le_of_eq rfl) (by decide) (k' := 1) (n' := 5) rfl rfl (by decide) (by decide) (argsL := []) (rest := []) rfl (fun v119 h118 q120 => ?_)
            obtain ⟨rfl, rfl⟩ := q120
            refine G.cast (st' := [(.int (own_dc (a &&& (1073741823 : Int32)) (((a &&& (1073741823 : Int32)) + (b &&& (268435455 : Int32))) - (1 : Int32)) (((((a &&& (1073741823 : Int32)) + (b &&& (268435455 : Int32))) - (1 : Int32)) + (1 : Int32)) + (d &&& (268435455 : Int32)))))]) ?_ rfl
            refine g_iload cx d0_157 rfl ?_
            refine g_icmp_ne cx d0_159 (fun hc159 => ?_) (fun hc159 => ?_)
            · refine g_iconst cx d0_166 (v := (0 : Int32)) rfl ?_
              refine g_retZ cx d0_167 rfl rfl (by decide) (by decide) ?_
              exact absurd (own_L4 _ _ _ (own_r a b d).1 (own_r a b d).2.1 (own_r a b d).2.2 hc106) hc159
            · refine g_iconst cx d0_162 (v := (1 : Int32)) rfl ?_
              refine g_goto cx d0_163 ?_
              refine g_retZ cx d0_167 rfl rfl (by decide) (by decide) ?_
              rfl
        · refine g_iload cx d0_109 rfl ?_
          refine g_goto cx d0_111 ?_
          refine g_istore cx d0_121 (Ls' := #[.val (.int a), .val (.int b), .val (.int mm), .val (.int d), .val (.int fl), .val (.long pw), .second, .val (.int (a &&& (1073741823 : Int32))), .val (.int (b &&& (268435455 : Int32))), .val (.int (d &&& (268435455 : Int32))), .val (.int ((mm &&& (2147483647 : Int32)) % (3 : Int32))), .val (.int (((a &&& (1073741823 : Int32)) + (b &&& (268435455 : Int32))) - (1 : Int32))), .val (.int (a &&& (1073741823 : Int32))), .unset]) rfl ?_
          refine g_new cx d0_123 (hw _ (List.mem_of_getElem? (i := 3) rfl)) (hw _ (List.mem_of_getElem? (i := 4) rfl)) (hw _ (List.mem_of_getElem? (i := 5) rfl)) (k' := 1) (n' := 5) rfl rfl (by decide) (by decide) (fun h121 b122 gb123 E124 X125 D126 => ?_)
          have g_b122 : Z.heap.size ≤ b122 := by rw [gb123]; exact OL.2.1
          have OL := OL.ext E124
          have O_b122 := ObB.new hw X125 D126
          refine g_dup cx d0_126 rfl ?_
          refine g_iload cx d0_127 rfl ?_
          refine g_iconst cx d0_129 (v := (1 : Int32)) rfl ?_
          refine g_iand cx d0_130 ?_
          refine g_if_eq cx d0_131 (fun hc131 => ?_) (fun hc131 => ?_)
          · refine g_iconst cx d0_138 (v := (0 : Int32)) rfl ?_
            refine g_iload cx d0_139 rfl ?_
            refine g_iload cx d0_141 rfl ?_
            refine g_iload cx d0_143 rfl ?_
            refine g_lload cx d0_145 rfl ?_
            refine g_special cx (y := (⟨"com/example/crisp_typedef/crisptypedef/NumberText$Significand", "<init>", "(ZIIIJ)V"⟩ : MethodName)) (a := b122) d0_147 rfl rfl (hw _ (List.mem_of_getElem? (i := 6) rfl)) (hw _ (List.mem_of_getElem? (i := 7) rfl)) (hw _ (List.mem_of_getElem? (i := 5) rfl)) (hw _ (List.mem_of_getElem? (i := 8) rfl)) (by decide) (bytes := prog_22_method_1_code) (maxL' := 7) (M := (rm2 l Z a0 hw b122 ((0 : Int32)) ((a &&& (1073741823 : Int32))) ((((a &&& (1073741823 : Int32)) + (b &&& (268435455 : Int32))) - (1 : Int32))) ((a &&& (1073741823 : Int32))) pw _ O_b122 g_b122 OL)) rfl (lenOf pd_1 rfl) (by decide) (W := 1) (Nat.le_of_eq rfl) (by decide) (k' := 1) (n' := 5) rfl rfl (by decide) (by decide) (argsL := [(.int (0 : Int32)), (.int (a &&& (1073741823 : Int32))), (.int (((a &&& (1073741823 : Int32)) + (b &&& (268435455 : Int32))) - (1 : Int32))), (.int (a &&& (1073741823 : Int32))), (.long pw)]) (rest := [(.ref b122)]) rfl (fun v129 h128 q130 => ?_)
            obtain ⟨rfl, K127, O_b122⟩ := q130
            have OL := OL.keep K127 (allS g_b122 all0)
            refine G.cast (st' := [(.ref b122)]) ?_ rfl
            refine g_astore cx d0_150 rfl (Ls' := #[.val (.int a), .val (.int b), .val (.int mm), .val (.int d), .val (.int fl), .val (.long pw), .second, .val (.int (a &&& (1073741823 : Int32))), .val (.int (b &&& (268435455 : Int32))), .val (.int (d &&& (268435455 : Int32))), .val (.int ((mm &&& (2147483647 : Int32)) % (3 : Int32))), .val (.int (((a &&& (1073741823 : Int32)) + (b &&& (268435455 : Int32))) - (1 : Int32))), .val (.int (a &&& (1073741823 : Int32))), .val (.ref b122)]) rfl ?_
            refine g_aload cx d0_152 rfl rfl ?_
            refine g_virtual cx (y := (⟨"com/example/crisp_typedef/crisptypedef/NumberText$Significand", "digitCount", "()I"⟩ : MethodName)) (z := (⟨"com/example/crisp_typedef/crisptypedef/NumberText$Significand", "digitCount", "()I"⟩ : MethodName)) (a := b122) d0_154 (hw _ (List.mem_of_getElem? (i := 27) rfl)) (hw _ (List.mem_of_getElem? (i := 28) rfl)) (hw _ (List.mem_of_getElem? (i := 5) rfl)) (hw _ (List.mem_of_getElem? (i := 31) rfl)) (hw _ (List.mem_of_getElem? (i := 30) rfl)) (hw _ (List.mem_of_getElem? (i := 29) rfl)) rfl (by decide) O_b122.1 (bytes := prog_22_method_3_code) (maxL' := 1) (M := (rm3 l Z a0 hw _ _ _ _ _ _ _ O_b122)) rfl (lenOf pd_2 rfl) (by decide) (W := 0) (Nat.le_of_eq rfl) (by decide) (k' := 1) (n' := 5) rfl rfl (by decide) (by decide) (argsL := []) (rest := []) rfl (fun v132 h131 q133 => ?_)
            obtain ⟨rfl, rfl⟩ := q133
            refine G.cast (st' := [(.int (own_dc (a &&& (1073741823 : Int32)) (((a &&& (1073741823 : Int32)) + (b &&& (268435455 : Int32))) - (1 : Int32)) (a &&& (1073741823 : Int32))))]) ?_ rfl
            refine g_iload cx d0_157 rfl ?_
            refine g_icmp_ne cx d0_159 (fun hc159 => ?_) (fun hc159 => ?_)
            · refine g_iconst cx d0_166 (v := (0 : Int32)) rfl ?_
              refine g_retZ cx d0_167 rfl rfl (by decide) (by decide) ?_
              exact absurd (own_L3 _ _ (d &&& 268435455) (own_r a b d).1 (own_r a b d).2.1 (own_r a b d).2.2 hc106) hc159
            · refine g_iconst cx d0_162 (v := (1 : Int32)) rfl ?_
              refine g_goto cx d0_163 ?_
              refine g_retZ cx d0_167 rfl rfl (by decide) (by decide) ?_
              rfl
          · refine g_iconst cx d0_134 (v := (1 : Int32)) rfl ?_
            refine g_goto cx d0_135 ?_
            refine g_iload cx d0_139 rfl ?_
            refine g_iload cx d0_141 rfl ?_
            refine g_iload cx d0_143 rfl ?_
            refine g_lload cx d0_145 rfl ?_
            refine g_special cx (y := (⟨"com/example/crisp_typedef/crisptypedef/NumberText$Significand", "<init>", "(ZIIIJ)V"⟩ : MethodName)) (a := b122) d0_147 rfl rfl (hw _ (List.mem_of_getElem? (i := 6) rfl)) (hw _ (List.mem_of_getElem? (i := 7) rfl)) (hw _ (List.mem_of_getElem? (i := 5) rfl)) (hw _ (List.mem_of_getElem? (i := 8) rfl)) (by decide) (bytes := prog_22_method_1_code) (maxL' := 7) (M := (rm2 l Z a0 hw b122 ((1 : Int32)) ((a &&& (1073741823 : Int32))) ((((a &&& (1073741823 : Int32)) + (b &&& (268435455 : Int32))) - (1 : Int32))) ((a &&& (1073741823 : Int32))) pw _ O_b122 g_b122 OL)) rfl (lenOf pd_1 rfl) (by decide) (W := 1) (Nat.le_of_eq rfl) (by decide) (k' := 1) (n' := 5) rfl rfl (by decide) (by decide) (argsL := [(.int (1 : Int32)), (.int (a &&& (1073741823 : Int32))), (.int (((a &&& (1073741823 : Int32)) + (b &&& (268435455 : Int32))) - (1 : Int32))), (.int (a &&& (1073741823 : Int32))), (.long pw)]) (rest := [(.ref b122)]) rfl (fun v136 h135 q137 => ?_)
            obtain ⟨rfl, K134, O_b122⟩ := q137
            have OL := OL.keep K134 (allS g_b122 all0)
            refine G.cast (st' := [(.ref b122)]) ?_ rfl
            refine g_astore cx d0_150 rfl (Ls' := #[.val (.int a), .val (.int b), .val (.int mm), .val (.int d), .val (.int fl), .val (.long pw), .second, .val (.int (a &&& (1073741823 : Int32))), .val (.int (b &&& (268435455 : Int32))), .val (.int (d &&& (268435455 : Int32))), .val (.int ((mm &&& (2147483647 : Int32)) % (3 : Int32))), .val (.int (((a &&& (1073741823 : Int32)) + (b &&& (268435455 : Int32))) - (1 : Int32))), .val (.int (a &&& (1073741823 : Int32))), .val (.ref b122)]) rfl ?_
            refine g_aload cx d0_152 rfl rfl ?_
            refine g_virtual cx (y := (⟨"com/example/crisp_typedef/crisptypedef/NumberText$Significand", "digitCount", "()I"⟩ : MethodName)) (z := (⟨"com/example/crisp_typedef/crisptypedef/NumberText$Significand", "digitCount", "()I"⟩ : MethodName)) (a := b122) d0_154 (hw _ (List.mem_of_getElem? (i := 27) rfl)) (hw _ (List.mem_of_getElem? (i := 28) rfl)) (hw _ (List.mem_of_getElem? (i := 5) rfl)) (hw _ (List.mem_of_getElem? (i := 31) rfl)) (hw _ (List.mem_of_getElem? (i := 30) rfl)) (hw _ (List.mem_of_getElem? (i := 29) rfl)) rfl (by decide) O_b122.1 (bytes := prog_22_method_3_code) (maxL' := 1) (M := (rm3 l Z a0 hw _ _ _ _ _ _ _ O_b122)) rfl (lenOf pd_2 rfl) (by decide) (W := 0) (Nat.le_of_eq rfl) (by decide) (k' := 1) (n' := 5) rfl rfl (by decide) (by decide) (argsL := []) (rest := []) rfl (fun v139 h138 q140 => ?_)
            obtain ⟨rfl, rfl⟩ := q140
            refine G.cast (st' := [(.int (own_dc (a &&& (1073741823 : Int32)) (((a &&& (1073741823 : Int32)) + (b &&& (268435455 : Int32))) - (1 : Int32)) (a &&& (1073741823 : Int32))))]) ?_ rfl
            refine g_iload cx d0_157 rfl ?_
            refine g_icmp_ne cx d0_159 (fun hc159 => ?_) (fun hc159 => ?_)
            · refine g_iconst cx d0_166 (v := (0 : Int32)) rfl ?_
              refine g_retZ cx d0_167 rfl rfl (by decide) (by decide) ?_
              exact absurd (own_L3 _ _ (d &&& 268435455) (own_r a b d).1 (own_r a b d).2.1 (own_r a b d).2.2 hc106) hc159
            · refine g_iconst cx d0_162 (v := (1 : Int32)) rfl ?_
              refine g_goto cx d0_163 ?_
              refine g_retZ cx d0_167 rfl rfl (by decide) (by decide) ?_
              rfl
      · refine g_iload cx d0_61 rfl ?_
        refine g_iconst cx d0_63 (v := (2 : Int32)) rfl ?_
        refine g_icmp_lt cx d0_64 (fun hc64 => ?_) (fun hc64 => ?_)
        · refine g_iload cx d0_95 rfl ?_
          refine g_iload cx d0_97 rfl ?_
          refine g_iadd cx d0_99 ?_
          refine g_iconst cx d0_100 (v := (1 : Int32)) rfl ?_
          refine g_isub cx d0_101 ?_
          refine g_istore cx d0_102 (Ls' := #[.val (.int a), .val (.int b), .val (.int mm), .val (.int d), .val (.int fl), .val (.long pw), .second, .val (.int (a &&& (1073741823 : Int32))), .val (.int (b &&& (268435455 : Int32))), .val (.int (d &&& (268435455 : Int32))), .val (.int ((mm &&& (2147483647 : Int32)) % (3 : Int32))), .val (.int (((a &&& (1073741823 : Int32)) + (b &&& (268435455 : Int32))) - (1 : Int32))), .unset, .unset]) rfl ?_
          refine g_iload cx d0_104 rfl ?_
          refine g_if_ne cx d0_106 (fun hc106 => ?_) (fun hc106 => ?_)
          · refine g_iload cx d0_114 rfl ?_
            refine g_iconst cx d0_116 (v := (1 : Int32)) rfl ?_
            refine g_iadd cx d0_117 ?_
            refine g_iload cx d0_118 rfl ?_
            refine g_iadd cx d0_120 ?_
            refine g_istore cx d0_121 (Ls' := #[.val (.int a), .val (.int b), .val (.int mm), .val (.int d), .val (.int fl), .val (.long pw), .second, .val (.int (a &&& (1073741823 : Int32))), .val (.int (b &&& (268435455 : Int32))), .val (.int (d &&& (268435455 : Int32))), .val (.int ((mm &&& (2147483647 : Int32)) % (3 : Int32))), .val (.int (((a &&& (1073741823 : Int32)) + (b &&& (268435455 : Int32))) - (1 : Int32))), .val (.int (((((a &&& (1073741823 : Int32)) + (b &&& (268435455 : Int32))) - (1 : Int32)) + (1 : Int32)) + (d &&& (268435455 : Int32)))), .unset]) rfl ?_
            refine g_new cx d0_123 (hw _ (List.mem_of_getElem? (i := 3) rfl)) (hw _ (List.mem_of_getElem? (i := 4) rfl)) (hw _ (List.mem_of_getElem? (i := 5) rfl)) (k' := 1) (n' := 5) rfl rfl (by decide) (by decide) (fun h141 b142 gb143 E144 X145 D146 => ?_)
            have g_b142 : Z.heap.size ≤ b142 := by rw [gb143]; exact OL.2.1
            have OL := OL.ext E144
            have O_b142 := ObB.new hw X145 D146
            refine g_dup cx d0_126 rfl ?_
            refine g_iload cx d0_127 rfl ?_
            refine g_iconst cx d0_129 (v := (1 : Int32)) rfl ?_
            refine g_iand cx d0_130 ?_
            refine g_if_eq cx d0_131 (fun hc131 => ?_) (fun hc131 => ?_)
            · refine g_iconst cx d0_138 (v := (0 : Int32)) rfl ?_
              refine g_iload cx d0_139 rfl ?_
              refine g_iload cx d0_141 rfl ?_
              refine g_iload cx d0_143 rfl ?_
              refine g_lload cx d0_145 rfl ?_
              refine g_special cx (y := (⟨"com/example/crisp_typedef/crisptypedef/NumberText$Significand", "<init>", "(ZIIIJ)V"⟩ : MethodName)) (a := b142) d0_147 rfl rfl (hw _ (List.mem_of_getElem? (i := 6) rfl)) (hw _ (List.mem_of_getElem? (i := 7) rfl)) (hw _ (List.mem_of_getElem? (i := 5) rfl)) (hw _ (List.mem_of_getElem? (i := 8) rfl)) (by decide) (bytes := prog_22_method_1_code) (maxL' := 7) (M := (rm2 l Z a0 hw b142 ((0 : Int32)) ((a &&& (1073741823 : Int32))) ((((a &&& (1073741823 : Int32)) + (b &&& (268435455 : Int32))) - (1 : Int32))) ((((((a &&& (1073741823 : Int32)) + (b &&& (268435455 : Int32))) - (1 : Int32)) + (1 : Int32)) + (d &&& (268435455 : Int32)))) pw _ O_b142 g_b142 OL)) rfl (lenOf pd_1 rfl) (by decide) (W := 1) (Nat.le_of_eq rfl) (by decide) (k' := 1) (n' := 5) rfl rfl (by decide) (by decide) (argsL := [(.int (0 : Int32)), (.int (a &&& (1073741823 : Int32))), (.int (((a &&& (1073741823 : Int32)) + (b &&& (268435455 : Int32))) - (1 : Int32))), (.int (((((a &&& (1073741823 : Int32)) + (b &&& (268435455 : Int32))) - (1 : Int32)) + (1 : Int32)) + (d &&& (268435455 : Int32)))), (.long pw)]) (rest := [(.ref b142)]) rfl (fun v149 h148 q150 => ?_)
              obtain ⟨rfl, K147, O_b142⟩ := q150
              have OL := OL.keep K147 (allS g_b142 all0)
              refine G.cast (st' := [(.ref b142)]) ?_ rfl
              refine g_astore cx d0_150 rfl (Ls' := #[.val (.int a), .val (.int b), .val (.int mm), .val (.int d), .val (.int fl), .val (.long pw), .second, .val (.int (a &&& (1073741823 : Int32))), .val (.int (b &&& (268435455 : Int32))), .val (.int (d &&& (268435455 : Int32))), .val (.int ((mm &&& (2147483647 : Int32)) % (3 : Int32))), .val (.int (((a &&& (1073741823 : Int32)) + (b &&& (268435455 : Int32))) - (1 : Int32))), .val (.int (((((a &&& (1073741823 : Int32)) + (b &&& (268435455 : Int32))) - (1 : Int32)) + (1 : Int32)) + (d &&& (268435455 : Int32)))), .val (.ref b142)]) rfl ?_
              refine g_aload cx d0_152 rfl rfl ?_
              refine g_virtual cx (y := (⟨"com/example/crisp_typedef/crisptypedef/NumberText$Significand", "digitCount", "()I"⟩ : MethodName)) (z := (⟨"com/example/crisp_typedef/crisptypedef/NumberText$Significand", "digitCount", "()I"⟩ : MethodName)) (a := b142) d0_154 (hw _ (List.mem_of_getElem? (i := 27) rfl)) (hw _ (List.mem_of_getElem? (i := 28) rfl)) (hw _ (List.mem_of_getElem? (i := 5) rfl)) (hw _ (List.mem_of_getElem? (i := 31) rfl)) (hw _ (List.mem_of_getElem? (i := 30) rfl)) (hw _ (List.mem_of_getElem? (i := 29) rfl)) rfl (by decide) O_b142.1 (bytes := prog_22_method_3_code) (maxL' := 1) (M := (rm3 l Z a0 hw _ _ _ _ _ _ _ O_b142)) rfl (lenOf pd_2 rfl) (by decide) (W := 0) (Nat.le_of_eq rfl) (by decide) (k' := 1) (n' := 5) rfl rfl (by decide) (by decide) (argsL := []) (rest := []) rfl (fun v152 h151 q153 => ?_)
              obtain ⟨rfl, rfl⟩ := q153
              refine G.cast (st' := [(.int (own_dc (a &&& (1073741823 : Int32)) (((a &&& (1073741823 : Int32)) + (b &&& (268435455 : Int32))) - (1 : Int32)) (((((a &&& (1073741823 : Int32)) + (b &&& (268435455 : Int32))) - (1 : Int32)) + (1 : Int32)) + (d &&& (268435455 : Int32)))))]) ?_ rfl
              refine g_iload cx d0_157 rfl ?_
              refine g_icmp_ne cx d0_159 (fun hc159 => ?_) (fun hc159 => ?_)
              · refine g_iconst cx d0_166 (v := (0 : Int32)) rfl ?_
                refine g_retZ cx d0_167 rfl rfl (by decide) (by decide) ?_
                exact absurd (own_L4 _ _ _ (own_r a b d).1 (own_r a b d).2.1 (own_r a b d).2.2 hc106) hc159
              · refine g_iconst cx d0_162 (v := (1 : Int32)) rfl ?_
                refine g_goto cx d0_163 ?_
                refine g_retZ cx d0_167 rfl rfl (by decide) (by decide) ?_
                rfl
            · refine g_iconst cx d0_134 (v := (1 : Int32)) rfl ?_
              refine g_goto cx d0_135 ?_
              refine g_iload cx d0_139 rfl ?_
              refine g_iload cx d0_141 rfl ?_
              refine g_iload cx d0_143 rfl ?_
              refine g_lload cx d0_145 rfl ?_
              refine g_special cx (y := (⟨"com/example/crisp_typedef/crisptypedef/NumberText$Significand", "<init>", "(ZIIIJ)V"⟩ : MethodName)) (a := b142) d0_147 rfl rfl (hw _ (List.mem_of_getElem? (i := 6) rfl)) (hw _ (List.mem_of_getElem? (i := 7) rfl)) (hw _ (List.mem_of_getElem? (i := 5) rfl)) (hw _ (List.mem_of_getElem? (i := 8) rfl)) (by decide) (bytes := prog_22_method_1_code) (maxL' := 7) (M := (rm2 l Z a0 hw b142 ((1 : Int32)) ((a &&& (1073741823 : Int32))) ((((a &&& (1073741823 : Int32)) + (b &&& (268435455 : Int32))) - (1 : Int32))) ((((((a &&& (1073741823 : Int32)) + (b &&& (268435455 : Int32))) - (1 : Int32)) + (1 : Int32)) + (d &&& (268435455 : Int32)))) pw _ O_b142 g_b142 OL)) rfl (lenOf pd_1 rfl) (by decide) (W := 1) (Nat.le_of_eq rfl) (by decide) (k' := 1) (n' := 5) rfl rfl (by decide) (by decide) (argsL := [(.int (1 : Int32)), (.int (a &&& (1073741823 : Int32))), (.int (((a &&& (1073741823 : Int32)) + (b &&& (268435455 : Int32))) - (1 : Int32))), (.int (((((a &&& (1073741823 : Int32)) + (b &&& (268435455 : Int32))) - (1 : Int32)) + (1 : Int32)) + (d &&& (268435455 : Int32)))), (.long pw)]) (rest := [(.ref b142)]) rfl (fun v156 h155 q157 => ?_)
              obtain ⟨rfl, K154, O_b142⟩ := q157
              have OL := OL.keep K154 (allS g_b142 all0)
              refine G.cast (st' := [(.ref b142)]) ?_ rfl
              refine g_astore cx d0_150 rfl (Ls' := #[.val (.int a), .val (.int b), .val (.int mm), .val (.int d), .val (.int fl), .val (.long pw), .second, .val (.int (a &&& (1073741823 : Int32))), .val (.int (b &&& (268435455 : Int32))), .val (.int (d &&& (268435455 : Int32))), .val (.int ((mm &&& (2147483647 : Int32)) % (3 : Int32))), .val (.int (((a &&& (1073741823 : Int32)) + (b &&& (268435455 : Int32))) - (1 : Int32))), .val (.int (((((a &&& (1073741823 : Int32)) + (b &&& (268435455 : Int32))) - (1 : Int32)) + (1 : Int32)) + (d &&& (268435455 : Int32)))), .val (.ref b142)]) rfl ?_
              refine g_aload cx d0_152 rfl rfl ?_
              refine g_virtual cx (y := (⟨"com/example/crisp_typedef/crisptypedef/NumberText$Significand", "digitCount", "()I"⟩ : MethodName)) (z := (⟨"com/example/crisp_typedef/crisptypedef/NumberText$Significand", "digitCount", "()I"⟩ : MethodName)) (a := b142) d0_154 (hw _ (List.mem_of_getElem? (i := 27) rfl)) (hw _ (List.mem_of_getElem? (i := 28) rfl)) (hw _ (List.mem_of_getElem? (i := 5) rfl)) (hw _ (List.mem_of_getElem? (i := 31) rfl)) (hw _ (List.mem_of_getElem? (i := 30) rfl)) (hw _ (List.mem_of_getElem? (i := 29) rfl)) rfl (by decide) O_b142.1 (bytes := prog_22_method_3_code) (maxL' := 1) (M := (rm3 l Z a0 hw _ _ _ _ _ _ _ O_b142)) rfl (lenOf pd_2 rfl) (by decide) (W := 0) (Nat.le_of_eq rfl) (by decide) (k' := 1) (n' := 5) rfl rfl (by decide) (by decide) (argsL := []) (rest := []) rfl (fun v159 h158 q160 => ?_)
              obtain ⟨rfl, rfl⟩ := q160
              refine G.cast (st' := [(.int (own_dc (a &&& (1073741823 : Int32)) (((a &&& (1073741823 : Int32)) + (b &&& (268435455 : Int32))) - (1 : Int32)) (((((a &&& (1073741823 : Int32)) + (b &&& (268435455 : Int32))) - (1 : Int32)) + (1 : Int32)) + (d &&& (268435455 : Int32)))))]) ?_ rfl
              refine g_iload cx d0_157 rfl ?_
              refine g_icmp_ne cx d0_159 (fun hc159 => ?_) (fun hc159 => ?_)
              · refine g_iconst cx d0_166 (v := (0 : Int32)) rfl ?_
                refine g_retZ cx d0_167 rfl rfl (by decide) (by decide) ?_
                exact absurd (own_L4 _ _ _ (own_r a b d).1 (own_r a b d).2.1 (own_r a b d).2.2 hc106) hc159
              · refine g_iconst cx d0_162 (v := (1 : Int32)) rfl ?_
                refine g_goto cx d0_163 ?_
                refine g_retZ cx d0_167 rfl rfl (by decide) (by decide) ?_
                rfl
          · refine g_iload cx d0_109 rfl ?_
            refine g_goto cx d0_111 ?_
            refine g_istore cx d0_121 (Ls' := #[.val (.int a), .val (.int b), .val (.int mm), .val (.int d), .val (.int fl), .val (.long pw), .second, .val (.int (a &&& (1073741823 : Int32))), .val (.int (b &&& (268435455 : Int32))), .val (.int (d &&& (268435455 : Int32))), .val (.int ((mm &&& (2147483647 : Int32)) % (3 : Int32))), .val (.int (((a &&& (1073741823 : Int32)) + (b &&& (268435455 : Int32))) - (1 : Int32))), .val (.int (a &&& (1073741823 : Int32))), .unset]) rfl ?_
            refine g_new cx d0_123 (hw _ (List.mem_of_getElem? (i := 3) rfl)) (hw _ (List.mem_of_getElem? (i := 4) rfl)) (hw _ (List.mem_of_getElem? (i := 5) rfl)) (k' := 1) (n' := 5) rfl rfl (by decide) (by decide) (fun h161 b162 gb163 E164 X165 D166 => ?_)
            have g_b162 : Z.heap.size ≤ b162 := by rw [gb163]; exact OL.2.1
            have OL := OL.ext E164
            have O_b162 := ObB.new hw X165 D166
            refine g_dup cx d0_126 rfl ?_
            refine g_iload cx d0_127 rfl ?_
            refine g_iconst cx d0_129 (v := (1 : Int32)) rfl ?_
            refine g_iand cx d0_130 ?_
            refine g_if_eq cx d0_131 (fun hc131 => ?_) (fun hc131 => ?_)
            · refine g_iconst cx d0_138 (v := (0 : Int32)) rfl ?_
              refine g_iload cx d0_139 rfl ?_
              refine g_iload cx d0_141 rfl ?_
              refine g_iload cx d0_143 rfl ?_
              refine g_lload cx d0_145 rfl ?_
              refine g_special cx (y := (⟨"com/example/crisp_typedef/crisptypedef/NumberText$Significand", "<init>", "(ZIIIJ)V"⟩ : MethodName)) (a := b162) d0_147 rfl rfl (hw _ (List.mem_of_getElem? (i := 6) rfl)) (hw _ (List.mem_of_getElem? (i := 7) rfl)) (hw _ (List.mem_of_getElem? (i := 5) rfl)) (hw _ (List.mem_of_getElem? (i := 8) rfl)) (by decide) (bytes := prog_22_method_1_code) (maxL' := 7) (M := (rm2 l Z a0 hw b162 ((0 : Int32)) ((a &&& (1073741823 : Int32))) ((((a &&& (1073741823 : Int32)) + (b &&& (268435455 : Int32))) - (1 : Int32))) ((a &&& (1073741823 : Int32))) pw _ O_b162 g_b162 OL)) rfl (lenOf pd_1 rfl) (by decide) (W := 1) (Nat.le_of_eq rfl) (by decide) (k' := 1) (n' := 5) rfl rfl (by decide) (by decide) (argsL := [(.int (0 : Int32)), (.int (a &&& (1073741823 : Int32))), (.int (((a &&& (1073741823 : Int32)) + (b &&& (268435455 : Int32))) - (1 : Int32))), (.int (a &&& (1073741823 : Int32))), (.long pw)]) (rest := [(.ref b162)]) rfl (fun v169 h168 q170 => ?_)
              obtain ⟨rfl, K167, O_b162⟩ := q170
              have OL := OL.keep K167 (allS g_b162 all0)
              refine G.cast (st' := [(.ref b162)]) ?_ rfl
              refine g_astore cx d0_150 rfl (Ls' := #[.val (.int a), .val (.int b), .val (.int mm), .val (.int d), .val (.int fl), .val (.long pw), .second, .val (.int (a &&& (1073741823 : Int32))), .val (.int (b &&& (268435455 : Int32))), .val (.int (d &&& (268435455 : Int32))), .val (.int ((mm &&& (2147483647 : Int32)) % (3 : Int32))), .val (.int (((a &&& (1073741823 : Int32)) + (b &&& (268435455 : Int32))) - (1 : Int32))), .val (.int (a &&& (1073741823 : Int32))), .val (.ref b162)]) rfl ?_
              refine g_aload cx d0_152 rfl rfl ?_
              refine g_virtual cx (y := (⟨"com/example/crisp_typedef/crisptypedef/NumberText$Significand", "digitCount", "()I"⟩ : MethodName)) (z := (⟨"com/example/crisp_typedef/crisptypedef/NumberText$Significand", "digitCount", "()I"⟩ : MethodName)) (a := b162) d0_154 (hw _ (List.mem_of_getElem? (i := 27) rfl)) (hw _ (List.mem_of_getElem? (i := 28) rfl)) (hw _ (List.mem_of_getElem? (i := 5) rfl)) (hw _ (List.mem_of_getElem? (i := 31) rfl)) (hw _ (List.mem_of_getElem? (i := 30) rfl)) (hw _ (List.mem_of_getElem? (i := 29) rfl)) rfl (by decide) O_b162.1 (bytes := prog_22_method_3_code) (maxL' := 1) (M := (rm3 l Z a0 hw _ _ _ _ _ _ _ O_b162)) rfl (lenOf pd_2 rfl) (by decide) (W := 0) (Nat.le_of_eq rfl) (by decide) (k' := 1) (n' := 5) rfl rfl (by decide) (by decide) (argsL := []) (rest := []) rfl (fun v172 h171 q173 => ?_)
              obtain ⟨rfl, rfl⟩ := q173
              refine G.cast (st' := [(.int (own_dc (a &&& (1073741823 : Int32)) (((a &&& (1073741823 : Int32)) + (b &&& (268435455 : Int32))) - (1 : Int32)) (a &&& (1073741823 : Int32))))]) ?_ rfl
              refine g_iload cx d0_157 rfl ?_
              refine g_icmp_ne cx d0_159 (fun hc159 => ?_) (fun hc159 => ?_)
              · refine g_iconst cx d0_166 (v := (0 : Int32)) rfl ?_
                refine g_retZ cx d0_167 rfl rfl (by decide) (by decide) ?_
                exact absurd (own_L3 _ _ (d &&& 268435455) (own_r a b d).1 (own_r a b d).2.1 (own_r a b d).2.2 hc106) hc159
              · refine g_iconst cx d0_162 (v := (1 : Int32)) rfl ?_
                refine g_goto cx d0_163 ?_
                refine g_retZ cx d0_167 rfl rfl (by decide) (by decide) ?_
                rfl
            · refine g_iconst cx d0_134 (v := (1 : Int32)) rfl ?_
              refine g_goto cx d0_135 ?_
              refine g_iload cx d0_139 rfl ?_
              refine g_iload cx d0_141 rfl ?_
              refine g_iload cx d0_143 rfl ?_
              refine g_lload cx d0_145 rfl ?_
              refine g_special cx (y := (⟨"com/example/crisp_typedef/crisptypedef/NumberText$Significand", "<init>", "(ZIIIJ)V"⟩ : MethodName)) (a := b162) d0_147 rfl rfl (hw _ (List.mem_of_getElem? (i := 6) rfl)) (hw _ (List.mem_of_getElem? (i := 7) rfl)) (hw _ (List.mem_of_getElem? (i := 5) rfl)) (hw _ (List.mem_of_getElem? (i := 8) rfl)) (by decide) (bytes := prog_22_method_1_code) (maxL' := 7) (M := (rm2 l Z a0 hw b162 ((1 : Int32)) ((a &&& (1073741823 : Int32))) ((((a &&& (1073741823 : Int32)) + (b &&& (268435455 : Int32))) - (1 : Int32))) ((a &&& (1073741823 : Int32))) pw _ O_b162 g_b162 OL)) rfl (lenOf pd_1 rfl) (by decide) (W := 1) (Nat.le_of_eq rfl) (by decide) (k' := 1) (n' := 5) rfl rfl (by decide) (by decide) (argsL := [(.int (1 : Int32)), (.int (a &&& (1073741823 : Int32))), (.int (((a &&& (1073741823 : Int32)) + (b &&& (268435455 : Int32))) - (1 : Int32))), (.int (a &&& (1073741823 : Int32))), (.long pw)]) (rest := [(.ref b162)]) rfl (fun v176 h175 q177 => ?_)
              obtain ⟨rfl, K174, O_b162⟩ := q177
              have OL := OL.keep K174 (allS g_b162 all0)
              refine G.cast (st' := [(.ref b162)]) ?_ rfl
              refine g_astore cx d0_150 rfl (Ls' := #[.val (.int a), .val (.int b), .val (.int mm), .val (.int d), .val (.int fl), .val (.long pw), .second, .val (.int (a &&& (1073741823 : Int32))), .val (.int (b &&& (268435455 : Int32))), .val (.int (d &&& (268435455 : Int32))), .val (.int ((mm &&& (2147483647 : Int32)) % (3 : Int32))), .val (.int (((a &&& (1073741823 : Int32)) + (b &&& (268435455 : Int32))) - (1 : Int32))), .val (.int (a &&& (1073741823 : Int32))), .val (.ref b162)]) rfl ?_
              refine g_aload cx d0_152 rfl rfl ?_
              refine g_virtual cx (y := (⟨"com/example/crisp_typedef/crisptypedef/NumberText$Significand", "digitCount", "()I"⟩ : MethodName)) (z := (⟨"com/example/crisp_typedef/crisptypedef/NumberText$Significand", "digitCount", "()I"⟩ : MethodName)) (a := b162) d0_154 (hw _ (List.mem_of_getElem? (i := 27) rfl)) (hw _ (List.mem_of_getElem? (i := 28) rfl)) (hw _ (List.mem_of_getElem? (i := 5) rfl)) (hw _ (List.mem_of_getElem? (i := 31) rfl)) (hw _ (List.mem_of_getElem? (i := 30) rfl)) (hw _ (List.mem_of_getElem? (i := 29) rfl)) rfl (by decide) O_b162.1 (bytes := prog_22_method_3_code) (maxL' := 1) (M := (rm3 l Z a0 hw _ _ _ _ _ _ _ O_b162)) rfl (lenOf pd_2 rfl) (by decide) (W := 0) (Nat.le_of_eq rfl) (by decide) (k' := 1) (n' := 5) rfl rfl (by decide) (by decide) (argsL := []) (rest := []) rfl (fun v179 h178 q180 => ?_)
              obtain ⟨rfl, rfl⟩ := q180
              refine G.cast (st' := [(.int (own_dc (a &&& (1073741823 : Int32)) (((a &&& (1073741823 : Int32)) + (b &&& (268435455 : Int32))) - (1 : Int32)) (a &&& (1073741823 : Int32))))]) ?_ rfl
              refine g_iload cx d0_157 rfl ?_
              refine g_icmp_ne cx d0_159 (fun hc159 => ?_) (fun hc159 => ?_)
              · refine g_iconst cx d0_166 (v := (0 : Int32)) rfl ?_
                refine g_retZ cx d0_167 rfl rfl (by decide) (by decide) ?_
                exact absurd (own_L3 _ _ (d &&& 268435455) (own_r a b d).1 (own_r a b d).2.1 (own_r a b d).2.2 hc106) hc159
              · refine g_iconst cx d0_162 (v := (1 : Int32)) rfl ?_
                refine g_goto cx d0_163 ?_
                refine g_retZ cx d0_167 rfl rfl (by decide) (by decide) ?_
                rfl
        · refine g_iconst cx d0_67 (v := (1 : Int32)) rfl ?_
          refine g_iload cx d0_68 rfl ?_
          refine g_iload cx d0_70 rfl ?_
          refine g_iconst cx d0_72 (v := (1 : Int32)) rfl ?_
          refine g_isub cx d0_73 ?_
          refine g_irem cx d0_74 (own_nz _ hc64) ?_
          refine g_iadd cx d0_75 ?_
          refine g_istore cx d0_76 (Ls' := #[.val (.int a), .val (.int b), .val (.int mm), .val (.int d), .val (.int fl), .val (.long pw), .second, .val (.int (a &&& (1073741823 : Int32))), .val (.int (b &&& (268435455 : Int32))), .val (.int (d &&& (268435455 : Int32))), .val (.int ((mm &&& (2147483647 : Int32)) % (3 : Int32))), .unset, .unset, .val (.int ((1 : Int32) + ((d &&& (268435455 : Int32)) % ((b &&& (268435455 : Int32)) - (1 : Int32)))))]) rfl ?_
          refine g_iload cx d0_78 rfl ?_
          refine g_iload cx d0_80 rfl ?_
          refine g_iadd cx d0_82 ?_
          refine g_istore cx d0_83 (Ls' := #[.val (.int a), .val (.int b), .val (.int mm), .val (.int d), .val (.int fl), .val (.long pw), .second, .val (.int (a &&& (1073741823 : Int32))), .val (.int (b &&& (268435455 : Int32))), .val (.int (d &&& (268435455 : Int32))), .val (.int ((mm &&& (2147483647 : Int32)) % (3 : Int32))), .unset, .val (.int ((a &&& (1073741823 : Int32)) + ((1 : Int32) + ((d &&& (268435455 : Int32)) % ((b &&& (268435455 : Int32)) - (1 : Int32)))))), .val (.int ((1 : Int32) + ((d &&& (268435455 : Int32)) % ((b &&& (268435455 : Int32)) - (1 : Int32)))))]) rfl ?_
          refine g_iload cx d0_85 rfl ?_
          refine g_iload cx d0_87 rfl ?_
          refine g_iadd cx d0_89 ?_
          refine g_istore cx d0_90 (Ls' := #[.val (.int a), .val (.int b), .val (.int mm), .val (.int d), .val (.int fl), .val (.long pw), .second, .val (.int (a &&& (1073741823 : Int32))), .val (.int (b &&& (268435455 : Int32))), .val (.int (d &&& (268435455 : Int32))), .val (.int ((mm &&& (2147483647 : Int32)) % (3 : Int32))), .val (.int ((a &&& (1073741823 : Int32)) + (b &&& (268435455 : Int32)))), .val (.int ((a &&& (1073741823 : Int32)) + ((1 : Int32) + ((d &&& (268435455 : Int32)) % ((b &&& (268435455 : Int32)) - (1 : Int32)))))), .val (.int ((1 : Int32) + ((d &&& (268435455 : Int32)) % ((b &&& (268435455 : Int32)) - (1 : Int32)))))]) rfl ?_
          refine g_goto cx d0_92 ?_
          refine g_new cx d0_123 (hw _ (List.mem_of_getElem? (i := 3) rfl)) (hw _ (List.mem_of_getElem? (i := 4) rfl)) (hw _ (List.mem_of_getElem? (i := 5) rfl)) (k' := 1) (n' := 5) rfl rfl (by decide) (by decide) (fun h181 b182 gb183 E184 X185 D186 => ?_)
          have g_b182 : Z.heap.size ≤ b182 := by rw [gb183]; exact OL.2.1
          have OL := OL.ext E184
          have O_b182 := ObB.new hw X185 D186
          refine g_dup cx d0_126 rfl ?_
          refine g_iload cx d0_127 rfl ?_
          refine g_iconst cx d0_129 (v := (1 : Int32)) rfl ?_
          refine g_iand cx d0_130 ?_
          refine g_if_eq cx d0_131 (fun hc131 => ?_) (fun hc131 => ?_)
          · refine g_iconst cx d0_138 (v := (0 : Int32)) rfl ?_
            refine g_iload cx d0_139 rfl ?_
            refine g_iload cx d0_141 rfl ?_
            refine g_iload cx d0_143 rfl ?_
            refine g_lload cx d0_145 rfl ?_
            refine g_special cx (y := (⟨"com/example/crisp_typedef/crisptypedef/NumberText$Significand", "<init>", "(ZIIIJ)V"⟩ : MethodName)) (a := b182) d0_147 rfl rfl (hw _ (List.mem_of_getElem? (i := 6) rfl)) (hw _ (List.mem_of_getElem? (i := 7) rfl)) (hw _ (List.mem_of_getElem? (i := 5) rfl)) (hw _ (List.mem_of_getElem? (i := 8) rfl)) (by decide) (bytes := prog_22_method_1_code) (maxL' := 7) (M := (rm2 l Z a0 hw b182 ((0 : Int32)) ((a &&& (1073741823 : Int32))) (((a &&& (1073741823 : Int32)) + (b &&& (268435455 : Int32)))) (((a &&& (1073741823 : Int32)) + ((1 : Int32) + ((d &&& (268435455 : Int32)) % ((b &&& (268435455 : Int32)) - (1 : Int32)))))) pw _ O_b182 g_b182 OL)) rfl (lenOf pd_1 rfl) (by decide) (W := 1) (Nat.le_of_eq rfl) (by decide) (k' := 1) (n' := 5) rfl rfl (by decide) (by decide) (argsL := [(.int (0 : Int32)), (.int (a &&& (1073741823 : Int32))), (.int ((a &&& (1073741823 : Int32)) + (b &&& (268435455 : Int32)))), (.int ((a &&& (1073741823 : Int32)) + ((1 : Int32) + ((d &&& (268435455 : Int32)) % ((b &&& (268435455 : Int32)) - (1 : Int32)))))), (.long pw)]) (rest := [(.ref b182)]) rfl (fun v189 h188 q190 => ?_)
            obtain ⟨rfl, K187, O_b182⟩ := q190
            have OL := OL.keep K187 (allS g_b182 all0)
            refine G.cast (st' := [(.ref b182)]) ?_ rfl
            refine g_astore cx d0_150 rfl (Ls' := #[.val (.int a), .val (.int b), .val (.int mm), .val (.int d), .val (.int fl), .val (.long pw), .second, .val (.int (a &&& (1073741823 : Int32))), .val (.int (b &&& (268435455 : Int32))), .val (.int (d &&& (268435455 : Int32))), .val (.int ((mm &&& (2147483647 : Int32)) % (3 : Int32))), .val (.int ((a &&& (1073741823 : Int32)) + (b &&& (268435455 : Int32)))), .val (.int ((a &&& (1073741823 : Int32)) + ((1 : Int32) + ((d &&& (268435455 : Int32)) % ((b &&& (268435455 : Int32)) - (1 : Int32)))))), .val (.ref b182)]) rfl ?_
            refine g_aload cx d0_152 rfl rfl ?_
            refine g_virtual cx (y := (⟨"com/example/crisp_typedef/crisptypedef/NumberText$Significand", "digitCount", "()I"⟩ : MethodName)) (z := (⟨"com/example/crisp_typedef/crisptypedef/NumberText$Significand", "digitCount", "()I"⟩ : MethodName)) (a := b182) d0_154 (hw _ (List.mem_of_getElem? (i := 27) rfl)) (hw _ (List.mem_of_getElem? (i := 28) rfl)) (hw _ (List.mem_of_getElem? (i := 5) rfl)) (hw _ (List.mem_of_getElem? (i := 31) rfl)) (hw _ (List.mem_of_getElem? (i := 30) rfl)) (hw _ (List.mem_of_getElem? (i := 29) rfl)) rfl (by decide) O_b182.1 (bytes := prog_22_method_3_code) (maxL' := 1) (M := (rm3 l Z a0 hw _ _ _ _ _ _ _ O_b182)) rfl (lenOf pd_2 rfl) (by decide) (W := 0) (Nat.le_of_eq rfl) (by decide) (k' := 1) (n' := 5) rfl rfl (by decide) (by decide) (argsL := []) (rest := []) rfl (fun v192 h191 q193 => ?_)
            obtain ⟨rfl, rfl⟩ := q193
            refine G.cast (st' := [(.int (own_dc (a &&& (1073741823 : Int32)) ((a &&& (1073741823 : Int32)) + (b &&& (268435455 : Int32))) ((a &&& (1073741823 : Int32)) + ((1 : Int32) + ((d &&& (268435455 : Int32)) % ((b &&& (268435455 : Int32)) - (1 : Int32)))))))]) ?_ rfl
            refine g_iload cx d0_157 rfl ?_
            refine g_icmp_ne cx d0_159 (fun hc159 => ?_) (fun hc159 => ?_)
            · refine g_iconst cx d0_166 (v := (0 : Int32)) rfl ?_
              refine g_retZ cx d0_167 rfl rfl (by decide) (by decide) ?_
              exact absurd (own_L2 _ _ _ (own_r a b d).1 (own_r a b d).2.1 (own_r a b d).2.2 hc64) hc159
            · refine g_iconst cx d0_162 (v := (1 : Int32)) rfl ?_
              refine g_goto cx d0_163 ?_
              refine g_retZ cx d0_167 rfl rfl (by decide) (by decide) ?_
              rfl
          · refine g_iconst cx d0_134 (v := (1 : Int32)) rfl ?_
            refine g_goto cx d0_135 ?_
            refine g_iload cx d0_139 rfl ?_
            refine g_iload cx d0_141 rfl ?_
            refine g_iload cx d0_143 rfl ?_
            refine g_lload cx d0_145 rfl ?_
            refine g_special cx (y := (⟨"com/example/crisp_typedef/crisptypedef/NumberText$Significand", "<init>", "(ZIIIJ)V"⟩ : MethodName)) (a := b182) d0_147 rfl rfl (hw _ (List.mem_of_getElem? (i := 6) rfl)) (hw _ (List.mem_of_getElem? (i := 7) rfl)) (hw _ (List.mem_of_getElem? (i := 5) rfl)) (hw _ (List.mem_of_getElem? (i := 8) rfl)) (by decide) (bytes := prog_22_method_1_code) (maxL' := 7) (M := (rm2 l Z a0 hw b182 ((1 : Int32)) ((a &&& (1073741823 : Int32))) (((a &&& (1073741823 : Int32)) + (b &&& (268435455 : Int32)))) (((a &&& (1073741823 : Int32)) + ((1 : Int32) + ((d &&& (268435455 : Int32)) % ((b &&& (268435455 : Int32)) - (1 : Int32)))))) pw _ O_b182 g_b182 OL)) rfl (lenOf pd_1 rfl) (by decide) (W := 1) (Nat.le_of_eq rfl) (by decide) (k' := 1) (n' := 5) rfl rfl (by decide) (by decide) (argsL := [(.int (1 : Int32)), (.int (a &&& (1073741823 : Int32))), (.int ((a &&& (1073741823 : Int32)) + (b &&& (268435455 : Int32)))), (.int ((a &&& (1073741823 : Int32)) + ((1 : Int32) + ((d &&& (268435455 : Int32)) % ((b &&& (268435455 : Int32)) - (1 : Int32)))))), (.long pw)]) (rest := [(.ref b182)]) rfl (fun v196 h195 q197 => ?_)
            obtain ⟨rfl, K194, O_b182⟩ := q197
            have OL := OL.keep K194 (allS g_b182 all0)
            refine G.cast (st' := [(.ref b182)]) ?_ rfl
            refine g_astore cx d0_150 rfl (Ls' := #[.val (.int a), .val (.int b), .val (.int mm), .val (.int d), .val (.int fl), .val (.long pw), .second, .val (.int (a &&& (1073741823 : Int32))), .val (.int (b &&& (268435455 : Int32))), .val (.int (d &&& (268435455 : Int32))), .val (.int ((mm &&& (2147483647 : Int32)) % (3 : Int32))), .val (.int ((a &&& (1073741823 : Int32)) + (b &&& (268435455 : Int32)))), .val (.int ((a &&& (1073741823 : Int32)) + ((1 : Int32) + ((d &&& (268435455 : Int32)) % ((b &&& (268435455 : Int32)) - (1 : Int32)))))), .val (.ref b182)]) rfl ?_
            refine g_aload cx d0_152 rfl rfl ?_
            refine g_virtual cx (y := (⟨"com/example/crisp_typedef/crisptypedef/NumberText$Significand", "digitCount", "()I"⟩ : MethodName)) (z := (⟨"com/example/crisp_typedef/crisptypedef/NumberText$Significand", "digitCount", "()I"⟩ : MethodName)) (a := b182) d0_154 (hw _ (List.mem_of_getElem? (i := 27) rfl)) (hw _ (List.mem_of_getElem? (i := 28) rfl)) (hw _ (List.mem_of_getElem? (i := 5) rfl)) (hw _ (List.mem_of_getElem? (i := 31) rfl)) (hw _ (List.mem_of_getElem? (i := 30) rfl)) (hw _ (List.mem_of_getElem? (i := 29) rfl)) rfl (by decide) O_b182.1 (bytes := prog_22_method_3_code) (maxL' := 1) (M := (rm3 l Z a0 hw _ _ _ _ _ _ _ O_b182)) rfl (lenOf pd_2 rfl) (by decide) (W := 0) (Nat.le_of_eq rfl) (by decide) (k' := 1) (n' := 5) rfl rfl (by decide) (by decide) (argsL := []) (rest := []) rfl (fun v199 h198 q200 => ?_)
            obtain ⟨rfl, rfl⟩ := q200
            refine G.cast (st' := [(.int (own_dc (a &&& (1073741823 : Int32)) ((a &&& (1073741823 : Int32)) + (b &&& (268435455 : Int32))) ((a &&& (1073741823 : Int32)) + ((1 : Int32) + ((d &&& (268435455 : Int32)) % ((b &&& (268435455 : Int32)) - (1 : Int32)))))))]) ?_ rfl
            refine g_iload cx d0_157 rfl ?_
            refine g_icmp_ne cx d0_159 (fun hc159 => ?_) (fun hc159 => ?_)
            · refine g_iconst cx d0_166 (v := (0 : Int32)) rfl ?_
              refine g_retZ cx d0_167 rfl rfl (by decide) (by decide) ?_
              exact absurd (own_L2 _ _ _ (own_r a b d).1 (own_r a b d).2.1 (own_r a b d).2.2 hc64) hc159
            · refine g_iconst cx d0_162 (v := (1 : Int32)) rfl ?_
              refine g_goto cx d0_163 ?_
              refine g_retZ cx d0_167 rfl rfl (by decide) (by decide) ?_
              rfl
    · refine g_iload cx d0_36 rfl ?_
      refine g_iload cx d0_38 rfl ?_
      refine g_iadd cx d0_40 ?_
      refine g_iconst cx d0_41 (v := (1 : Int32)) rfl ?_
      refine g_isub cx d0_42 ?_
      refine g_istore cx d0_43 (Ls' := #[.val (.int a), .val (.int b), .val (.int mm), .val (.int d), .val (.int fl), .val (.long pw), .second, .val (.int (a &&& (1073741823 : Int32))), .val (.int (b &&& (268435455 : Int32))), .val (.int (d &&& (268435455 : Int32))), .val (.int ((mm &&& (2147483647 : Int32)) % (3 : Int32))), .val (.int (((a &&& (1073741823 : Int32)) + (b &&& (268435455 : Int32))) - (1 : Int32))), .unset, .unset]) rfl ?_
      refine g_iload cx d0_45 rfl ?_
      refine g_iload cx d0_47 rfl ?_
      refine g_irem cx d0_49 (own_nz1 _ hc33) ?_
      refine g_istore cx d0_50 (Ls' := #[.val (.int a), .val (.int b), .val (.int mm), .val (.int d), .val (.int fl), .val (.long pw), .second, .val (.int (a &&& (1073741823 : Int32))), .val (.int (b &&& (268435455 : Int32))), .val (.int (d &&& (268435455 : Int32))), .val (.int ((mm &&& (2147483647 : Int32)) % (3 : Int32))), .val (.int (((a &&& (1073741823 : Int32)) + (b &&& (268435455 : Int32))) - (1 : Int32))), .val (.int ((d &&& (268435455 : Int32)) % (a &&& (1073741823 : Int32)))), .unset]) rfl ?_
      refine g_goto cx d0_52 ?_
      refine g_new cx d0_123 (hw _ (List.mem_of_getElem? (i := 3) rfl)) (hw _ (List.mem_of_getElem? (i := 4) rfl)) (hw _ (List.mem_of_getElem? (i := 5) rfl)) (k' := 1) (n' := 5) rfl rfl (by decide) (by decide) (fun h201 b202 gb203 E204 X205 D206 => ?_)
      have g_b202 : Z.heap.size ≤ b202 := by rw [gb203]; exact OL.2.1
      have OL := OL.ext E204
      have O_b202 := ObB.new hw X205 D206
      refine g_dup cx d0_126 rfl ?_
      refine g_iload cx d0_127 rfl ?_
      refine g_iconst cx d0_129 (v := (1 : Int32)) rfl ?_
      refine g_iand cx d0_130 ?_
      refine g_if_eq cx d0_131 (fun hc131 => ?_) (fun hc131 => ?_)
      · refine g_iconst cx d0_138 (v := (0 : Int32)) rfl ?_
        refine g_iload cx d0_139 rfl ?_
        refine g_iload cx d0_141 rfl ?_
        refine g_iload cx d0_143 rfl ?_
        refine g_lload cx d0_145 rfl ?_
        refine g_special cx (y := (⟨"com/example/crisp_typedef/crisptypedef/NumberText$Significand", "<init>", "(ZIIIJ)V"⟩ : MethodName)) (a := b202) d0_147 rfl rfl (hw _ (List.mem_of_getElem? (i := 6) rfl)) (hw _ (List.mem_of_getElem? (i := 7) rfl)) (hw _ (List.mem_of_getElem? (i := 5) rfl)) (hw _ (List.mem_of_getElem? (i := 8) rfl)) (by decide) (bytes := prog_22_method_1_code) (maxL' := 7) (M := (rm2 l Z a0 hw b202 ((0 : Int32)) ((a &&& (1073741823 : Int32))) ((((a &&& (1073741823 : Int32)) + (b &&& (268435455 : Int32))) - (1 : Int32))) (((d &&& (268435455 : Int32)) % (a &&& (1073741823 : Int32)))) pw _ O_b202 g_b202 OL)) rfl (lenOf pd_1 rfl) (by decide) (W := 1) (Nat.le_of_eq rfl) (by decide) (k' := 1) (n' := 5) rfl rfl (by decide) (by decide) (argsL := [(.int (0 : Int32)), (.int (a &&& (1073741823 : Int32))), (.int (((a &&& (1073741823 : Int32)) + (b &&& (268435455 : Int32))) - (1 : Int32))), (.int ((d &&& (268435455 : Int32)) % (a &&& (1073741823 : Int32)))), (.long pw)]) (rest := [(.ref b202)]) rfl (fun v209 h208 q210 => ?_)
        obtain ⟨rfl, K207, O_b202⟩ := q210
        have OL := OL.keep K207 (allS g_b202 all0)
        refine G.cast (st' := [(.ref b202)]) ?_ rfl
        refine g_astore cx d0_150 rfl (Ls' := #[.val (.int a), .val (.int b), .val (.int mm), .val (.int d), .val (.int fl), .val (.long pw), .second, .val (.int (a &&& (1073741823 : Int32))), .val (.int (b &&& (268435455 : Int32))), .val (.int (d &&& (268435455 : Int32))), .val (.int ((mm &&& (2147483647 : Int32)) % (3 : Int32))), .val (.int (((a &&& (1073741823 : Int32)) + (b &&& (268435455 : Int32))) - (1 : Int32))), .val (.int ((d &&& (268435455 : Int32)) % (a &&& (1073741823 : Int32)))), .val (.ref b202)]) rfl ?_
        refine g_aload cx d0_152 rfl rfl ?_
        refine g_virtual cx (y := (⟨"com/example/crisp_typedef/crisptypedef/NumberText$Significand", "digitCount", "()I"⟩ : MethodName)) (z := (⟨"com/example/crisp_typedef/crisptypedef/NumberText$Significand", "digitCount", "()I"⟩ : MethodName)) (a := b202) d0_154 (hw _ (List.mem_of_getElem? (i := 27) rfl)) (hw _ (List.mem_of_getElem? (i := 28) rfl)) (hw _ (List.mem_of_getElem? (i := 5) rfl)) (hw _ (List.mem_of_getElem? (i := 31) rfl)) (hw _ (List.mem_of_getElem? (i := 30) rfl)) (hw _ (List.mem_of_getElem? (i := 29) rfl)) rfl (by decide) O_b202.1 (bytes := prog_22_method_3_code) (maxL' := 1) (M := (rm3 l Z a0 hw _ _ _ _ _ _ _ O_b202)) rfl (lenOf pd_2 rfl) (by decide) (W := 0) (Nat.le_of_eq rfl) (by decide) (k' := 1) (n' := 5) rfl rfl (by decide) (by decide) (argsL := []) (rest := []) rfl (fun v212 h211 q213 => ?_)
        obtain ⟨rfl, rfl⟩ := q213
        refine G.cast (st' := [(.int (own_dc (a &&& (1073741823 : Int32)) (((a &&& (1073741823 : Int32)) + (b &&& (268435455 : Int32))) - (1 : Int32)) ((d &&& (268435455 : Int32)) % (a &&& (1073741823 : Int32)))))]) ?_ rfl
        refine g_iload cx d0_157 rfl ?_
        refine g_icmp_ne cx d0_159 (fun hc159 => ?_) (fun hc159 => ?_)
        · refine g_iconst cx d0_166 (v := (0 : Int32)) rfl ?_
          refine g_retZ cx d0_167 rfl rfl (by decide) (by decide) ?_
          exact absurd (own_L1 _ _ _ (own_r a b d).1 (own_r a b d).2.1 (own_r a b d).2.2 hc33) hc159
        · refine g_iconst cx d0_162 (v := (1 : Int32)) rfl ?_
          refine g_goto cx d0_163 ?_
          refine g_retZ cx d0_167 rfl rfl (by decide) (by decide) ?_
          rfl
      · refine g_iconst cx d0_134 (v := (1 : Int32)) rfl ?_
        refine g_goto cx d0_135 ?_
        refine g_iload cx d0_139 rfl ?_
        refine g_iload cx d0_141 rfl ?_
        refine g_iload cx d0_143 rfl ?_
        refine g_lload cx d0_145 rfl ?_
        refine g_special cx (y := (⟨"com/example/crisp_typedef/crisptypedef/NumberText$Significand", "<init>", "(ZIIIJ)V"⟩ : MethodName)) (a := b202) d0_147 rfl rfl (hw _ (List.mem_of_getElem? (i := 6) rfl)) (hw _ (List.mem_of_getElem? (i := 7) rfl)) (hw _ (List.mem_of_getElem? (i := 5) rfl)) (hw _ (List.mem_of_getElem? (i := 8) rfl)) (by decide) (bytes := prog_22_method_1_code) (maxL' := 7) (M := (rm2 l Z a0 hw b202 ((1 : Int32)) ((a &&& (1073741823 : Int32))) ((((a &&& (1073741823 : Int32)) + (b &&& (268435455 : Int32))) - (1 : Int32))) (((d &&& (268435455 : Int32)) % (a &&& (1073741823 : Int32)))) pw _ O_b202 g_b202 OL)) rfl (lenOf pd_1 rfl) (by decide) (W := 1) (Nat.le_of_eq rfl) (by decide) (k' := 1) (n' := 5) rfl rfl (by decide) (by decide) (argsL := [(.int (1 : Int32)), (.int (a &&& (1073741823 : Int32))), (.int (((a &&& (1073741823 : Int32)) + (b &&& (268435455 : Int32))) - (1 : Int32))), (.int ((d &&& (268435455 : Int32)) % (a &&& (1073741823 : Int32)))), (.long pw)]) (rest := [(.ref b202)]) rfl (fun v216 h215 q217 => ?_)
        obtain ⟨rfl, K214, O_b202⟩ := q217
        have OL := OL.keep K214 (allS g_b202 all0)
        refine G.cast (st' := [(.ref b202)]) ?_ rfl
        refine g_astore cx d0_150 rfl (Ls' := #[.val (.int a), .val (.int b), .val (.int mm), .val (.int d), .val (.int fl), .val (.long pw), .second, .val (.int (a &&& (1073741823 : Int32))), .val (.int (b &&& (268435455 : Int32))), .val (.int (d &&& (268435455 : Int32))), .val (.int ((mm &&& (2147483647 : Int32)) % (3 : Int32))), .val (.int (((a &&& (1073741823 : Int32)) + (b &&& (268435455 : Int32))) - (1 : Int32))), .val (.int ((d &&& (268435455 : Int32)) % (a &&& (1073741823 : Int32)))), .val (.ref b202)]) rfl ?_
        refine g_aload cx d0_152 rfl rfl ?_
        refine g_virtual cx (y := (⟨"com/example/crisp_typedef/crisptypedef/NumberText$Significand", "digitCount", "()I"⟩ : MethodName)) (z := (⟨"com/example/crisp_typedef/crisptypedef/NumberText$Significand", "digitCount", "()I"⟩ : MethodName)) (a := b202) d0_154 (hw _ (List.mem_of_getElem? (i := 27) rfl)) (hw _ (List.mem_of_getElem? (i := 28) rfl)) (hw _ (List.mem_of_getElem? (i := 5) rfl)) (hw _ (List.mem_of_getElem? (i := 31) rfl)) (hw _ (List.mem_of_getElem? (i := 30) rfl)) (hw _ (List.mem_of_getElem? (i := 29) rfl)) rfl (by decide) O_b202.1 (bytes := prog_22_method_3_code) (maxL' := 1) (M := (rm3 l Z a0 hw _ _ _ _ _ _ _ O_b202)) rfl (lenOf pd_2 rfl) (by decide) (W := 0) (Nat.le_of_eq rfl) (by decide) (k' := 1) (n' := 5) rfl rfl (by decide) (by decide) (argsL := []) (rest := []) rfl (fun v219 h218 q220 => ?_)
        obtain ⟨rfl, rfl⟩ := q220
        refine G.cast (st' := [(.int (own_dc (a &&& (1073741823 : Int32)) (((a &&& (1073741823 : Int32)) + (b &&& (268435455 : Int32))) - (1 : Int32)) ((d &&& (268435455 : Int32)) % (a &&& (1073741823 : Int32)))))]) ?_ rfl
        refine g_iload cx d0_157 rfl ?_
        refine g_icmp_ne cx d0_159 (fun hc159 => ?_) (fun hc159 => ?_)
        · refine g_iconst cx d0_166 (v := (0 : Int32)) rfl ?_
          refine g_retZ cx d0_167 rfl rfl (by decide) (by decide) ?_
          exact absurd (own_L1 _ _ _ (own_r a b d).1 (own_r a b d).2.1 (own_r a b d).2.2 hc33) hc159
        · refine g_iconst cx d0_162 (v := (1 : Int32)) rfl ?_
          refine g_goto cx d0_163 ?_
          refine g_retZ cx d0_167 rfl rfl (by decide) (by decide) ?_
          rfl
set_option maxRecDepth 65536 in
set_option maxHeartbeats 40000000 in
theorem comes_1 {Post : Tables → Env → Array Value → State → Outcome → State → Prop} (hpost : ∀ tb e args s v u, (limb_1_1.after args s (.returned v) u = true ∧ limb_1_2.after args s (.returned v) u = true ∧ True) → FrameEnd s (.returned v) u (Jvm.fieldLocs frame_1_writes args s ++ Jvm.arrayLocs frame_1_arrays args s ++ Jvm.staticLocs frame_1_statics s) 16 128 → Post tb e args s (.returned v) u) :
    ArmFor flags0 classFile x code maxLocals ret World_1 tables_1 room_1 Calls_1 rest_1 Pre_1 Post := by
  intro l hfl _ _ p e ha hc hk s m args below hf hA hF happ hP
  obtain ⟨hcalls, hrest, hpre⟩ := hP
  obtain ⟨-, -, -, hnamed, -, -, -, hat⟩ := (Spec.applies_iff hf).mp happ
  obtain ⟨hg, hn⟩ := and_e (Cond.before_iff.mp (show (Jvm.Cond.and given_1 narrow_1).before args s = true from hpre))
  obtain ⟨g1, g2⟩ := and_e hg
  obtain ⟨g3, g4⟩ := and_e g2
  obtain ⟨g5, g6⟩ := and_e g4
  obtain ⟨g7, g8⟩ := and_e g6
  obtain ⟨g9, g10⟩ := and_e g8
  obtain ⟨g11, g12⟩ := and_e g10
  obtain ⟨w0, w1, w2, w3, w4, w5, rfl⟩ : ∃ w0 w1 w2 w3 w4 w5 : Value, args = #[w0, w1, w2, w3, w4, w5] := by
    have hs : args.size = 6 := by simpa [Cond.value, given_1] using g1
    obtain ⟨L⟩ := args
    match L, hs with
    | [w0, w1, w2, w3, w4, w5], _ => exact ⟨w0, w1, w2, w3, w4, w5, rfl⟩
  have hw := fun d (hd : d ∈ tables_1) => atoms_spec (ws := Jvm.Cond.code x code maxLocals ret :: tables_1) hat d (List.mem_cons_of_mem _ hd)
  have hfit : Fit s := fun {y c} hc i hi => by
    obtain ⟨ha, rfl⟩ := Array.getElem?_eq_some_iff.mp hc
    have q := List.all_eq_true.mp ((Array.all_eq_true_iff_forall_mem.mp hF) _ (Array.getElem_mem ha)) i (List.mem_range.mpr hi)
    simpa [Array.getElem?_eq_getElem hi] using q
  obtain ⟨i0, ei0⟩ := is_v g3
  obtain rfl : w0 = (.int i0) := Option.some.inj ei0
  obtain ⟨i1, ei1⟩ := is_v g5
  obtain rfl : w1 = (.int i1) := Option.some.inj ei1
  obtain ⟨i2, ei2⟩ := is_v g7
  obtain rfl : w2 = (.int i2) := Option.some.inj ei2
  obtain ⟨i3, ei3⟩ := is_v g9
  obtain rfl : w3 = (.int i3) := Option.some.inj ei3
  obtain ⟨i4, ei4⟩ := is_v g11
  obtain rfl : w4 = (.int i4) := Option.some.inj ei4
  obtain ⟨i5, ei5⟩ := isL_v g12
  obtain rfl : w5 = (.long i5) := Option.some.inj ei5
  obtain ⟨n, o, h1, h2, h3, _, L, rfl, ⟨rfl, N⟩, hq⟩ := rm0 l s _ hw i0 i1 i2 i3 i4 i5 s.heap (Old.start s) tables_1 p e ha hc hk s m _ below hf ((Spec.applies_iff_loose hf).mp happ).1 ⟨rfl, State.Warmed39.refl s, rfl⟩ trivial
  refine ⟨n, _, h1, h2, h3, hpost _ _ _ _ _ _ ⟨Cond.after_iff.mpr rfl, Cond.after_iff.mpr (eq_i res_at (Term.int_eval (1)) rfl), trivial⟩ ⟨hq.1, hq.2.1, (hq.2.2.sift fun y hy => Or.inr (N y hy)).mono (by decide) (by decide)⟩⟩
theorem main_1_1 : Claimed_1_1 := comes_1 fun _ _ _ _ _ _ h hF => ⟨h.1, hF⟩
theorem main_1_2 : Claimed_1_2 := comes_1 fun _ _ _ _ _ _ h hF => ⟨h.2.1, hF⟩
end Jvm.Pilot.@@N@@
namespace Jvm.Pilot.@@N@@
open Jvm Jvm.ClassFile Sem Op Lib Jvm.Free Jvm.Stand Jvm.Pilot.@@N@@.Jvm.D
/-! MADE BY PROGRAM (witnessworld.py) out of the Statement's table words and the real class files: 10 classes; the members and pool entries that the words name. The judged class is class 1, her method 1. -/
namespace start1
open Jvm.ClassFile
def u (s : String) : CpInfo := .utf8 (stringToUtf16 s)
/-- a pool by its gaps: so many unusable entries, then the entry; so many at the end -/
def gap : Nat → List CpInfo → List CpInfo
  | 0, r => r
  | n + 1, r => .unusable :: gap n r
def poolList (es : List (Nat × CpInfo)) (last : Nat) : List CpInfo := es.foldr (fun e r => gap e.1 (e.2 :: r)) (gap last [])
def pool (es : List (Nat × CpInfo)) (last : Nat) : Array CpInfo := ⟨poolList es last⟩
def fileOf (pool : Array CpInfo) (this : Nat) (attrs : Array Attribute := #[]) (ms : Array MethodInfo := #[]) (fl : Nat := 33) (sup : Nat := 0) (ifs : Array Nat := #[]) (fds : Array FieldInfo := #[]) : ClassFile where
  minorVersion := 0
  majorVersion := 65
  constantPool := pool
  accessFlags := fl
  thisClass := this
  superClass := sup
  interfaces := ifs
  fields := fds
  methods := ms
  attributes := attrs
def plain (name : String) (sup : Option ClassId) : Class where
  name := name
  kind := .ordinary
  loader := none
  accessFlags := 33
  super := sup
  interfaces := #[]
  cf := none
  fields := #[]
  methods := #[]
  instanceTypes := #[]
  staticTypes := #[]
  resolved := #[]
  callSites := []
  init := .initialized
  statics := none
  mirror := none

def pool0 : Array CpInfo := pool [(5, u "<init>"), (0, u "()V"), (1, .class_ 10), (1, u "java/lang/Object")] 113

def k0c0 : Code := { maxStack := 0, maxLocals := 1, code := object_method_1_code, exceptionTable := #[], attributes := #[] }
def k0m0 : Method := { name := "<init>", desc := "()V", sig := { parameters := [], returnType := none }, accessFlags := 1, code := some k0c0 }
/-- java/lang/Object -/
def k0 : Class := { plain "java/lang/Object" none with
  accessFlags := 33
  interfaces := #[]
  cf := some (fileOf pool0 8 #[] #[{ accessFlags := 1, nameIndex := 5, descriptorIndex := 6, attributes := #[] }] 33 0 #[] #[])
  fields := #[]
  methods := #[k0m0]
  instanceTypes := #[]
  staticTypes := #[]
  resolved := Array.replicate 124 none
  statics := none }

def pool1 : Array CpInfo := pool [(2, .class_ 4), (1, u "java/lang/Object"), (0, u "<init>"), (0, u "()V"), (0, .integer 1073741823), (0, .integer 268435455), (0, .integer 2147483647), (0, .class_ 11), (0, u "com/example/crisp_typedef/crisptypedef/NumberText$Significand"), (0, .methodref 10 13), (0, .nameAndType 5 14), (0, u "(ZIIIJ)V"), (0, .methodref 10 16), (0, .nameAndType 17 18), (0, u "digitCount"), (0, u "()I"), (0, .class_ 20), (0, u "com/example/crisp_typedef/crisptypedef/SignificandDigitCountPinLaw"), (2, u "law"), (0, u "(IIIIIJ)Z")] 7

def k1m0 : Method := { name := "<init>", desc := "()V", sig := { parameters := [], returnType := none }, accessFlags := 1, code := none }
def k1c1 : Code := { maxStack := 8, maxLocals := 14, code := code, exceptionTable := #[], attributes := #[] }
def k1m1 : Method := { name := "law", desc := "(IIIIIJ)Z", sig := { parameters := [.int, .int, .int, .int, .int, .long], returnType := some .boolean }, accessFlags := 9, code := some k1c1 }
/-- com/example/crisp_typedef/crisptypedef/SignificandDigitCountPinLaw -/
def k1 : Class := { plain "com/example/crisp_typedef/crisptypedef/SignificandDigitCountPinLaw" (some 0) with
  accessFlags := 49
  interfaces := #[]
  cf := some (fileOf pool1 19 #[] #[{ accessFlags := 1, nameIndex := 5, descriptorIndex := 6, attributes := #[] }, { accessFlags := 9, nameIndex := 23, descriptorIndex := 24, attributes := #[] }] 49 2 #[] #[])
  fields := #[]
  methods := #[k1m0, k1m1]
  instanceTypes := #[]
  staticTypes := #[]
  resolved := Array.replicate 32 none
  statics := none }

def pool2 : Array CpInfo := pool [(1, .methodref 2 3), (0, .class_ 4), (0, .nameAndType 5 6), (0, u "java/lang/Object"), (0, u "<init>"), (0, u "()V"), (0, .class_ 8), (0, u "java/lang/Record")] 13

def k2c0 : Code := { maxStack := 1, maxLocals := 1, code := jdk_30_method_1_code, exceptionTable := #[], attributes := #[] }
def k2m0 : Method := { name := "<init>", desc := "()V", sig := { parameters := [], returnType := none }, accessFlags := 4, code := some k2c0 }
/-- java/lang/Record -/
def k2 : Class := { plain "java/lang/Record" (some 0) with
  accessFlags := 1057
  interfaces := #[]
  cf := some (fileOf pool2 7 #[] #[{ accessFlags := 4, nameIndex := 5, descriptorIndex := 6, attributes := #[] }] 1057 2 #[] #[])
  fields := #[]
  methods := #[k2m0]
  instanceTypes := #[]
  staticTypes := #[]
  resolved := Array.replicate 22 none
  statics := none }

def pool3 : Array CpInfo := pool [(1, .methodref 2 3), (0, .class_ 4), (0, .nameAndType 5 6), (0, u "java/lang/Record"), (0, u "<init>"), (0, u "()V"), (0, .fieldref 8 9), (0, .class_ 10), (0, .nameAndType 11 12), (0, u "com/example/crisp_typedef/crisptypedef/NumberText$Significand"), (0, u "negative"), (0, u "Z"), (0, .fieldref 8 14), (0, .nameAndType 15 16), (0, u "first"), (0, u "I"), (0, .fieldref 8 18), (0, .nameAndType 19 16), (0, u "last"), (0, .fieldref 8 21), (0, .nameAndType 22 16), (0, u "point"), (0, .fieldref 8 24), (0, .nameAndType 25 26), (0, u "power"), (0, u "J"), (34, u "(ZIIIJ)V"), (6, u "digitCount"), (0, u "()I"), (9, .class_ 80), (0, u "com/example/crisp_typedef/crisptypedef/NumberText")] 23

def k3c0 : Code := { maxStack := 3, maxLocals := 7, code := prog_22_method_1_code, exceptionTable := #[], attributes := #[] }
def k3m0 : Method := { name := "<init>", desc := "(ZIIIJ)V", sig := { parameters := [.boolean, .int, .int, .int, .long], returnType := none }, accessFlags := 0, code := some k3c0 }
def k3c1 : Code := { maxStack := 2, maxLocals := 1, code := prog_22_method_3_code, exceptionTable := #[], attributes := #[] }
def k3m1 : Method := { name := "digitCount", desc := "()I", sig := { parameters := [], returnType := some .int }, accessFlags := 0, code := some k3c1 }
/-- com/example/crisp_typedef/crisptypedef/NumberText$Significand -/
def k3 : Class := { plain "com/example/crisp_typedef/crisptypedef/NumberText$Significand" (some 2) with
  accessFlags := 48
  interfaces := #[]
  cf := some (fileOf pool3 8 #[.nestHost 79] #[{ accessFlags := 0, nameIndex := 5, descriptorIndex := 61, attributes := #[] }, { accessFlags := 0, nameIndex := 68, descriptorIndex := 69, attributes := #[] }] 48 2 #[] #[{ accessFlags := 18, nameIndex := 11, descriptorIndex := 12, attributes := #[] }, { accessFlags := 18, nameIndex := 15, descriptorIndex := 16, attributes := #[] }, { accessFlags := 18, nameIndex := 19, descriptorIndex := 16, attributes := #[] }, { accessFlags := 18, nameIndex := 22, descriptorIndex := 16, attributes := #[] }, { accessFlags := 18, nameIndex := 25, descriptorIndex := 26, attributes := #[] }])
  fields := #[{ name := "negative", type := .boolean, accessFlags := 18, slot := 0, constantValue := 0 }, { name := "first", type := .int, accessFlags := 18, slot := 1, constantValue := 0 }, { name := "last", type := .int, accessFlags := 18, slot := 2, constantValue := 0 }, { name := "point", type := .int, accessFlags := 18, slot := 3, constantValue := 0 }, { name := "power", type := .long, accessFlags := 18, slot := 4, constantValue := 0 }]
  methods := #[k3m0, k3m1]
  instanceTypes := #[.boolean, .int, .int, .int, .long]
  staticTypes := #[]
  resolved := Array.replicate 104 none
  statics := none }

def pool4 : Array CpInfo := pool [(1, u "java/lang/Cloneable"), (0, .class_ 1), (0, u "java/lang/Object"), (0, .class_ 3)] 3

/-- java/lang/Cloneable -/
def k4 : Class := { plain "java/lang/Cloneable" (some 0) with
  accessFlags := 1537
  interfaces := #[]
  cf := some (fileOf pool4 2 #[] #[] 1537 4 #[] #[])
  fields := #[]
  methods := #[]
  instanceTypes := #[]
  staticTypes := #[]
  resolved := Array.replicate 8 none
  statics := none }

def pool5 : Array CpInfo := pool [(1, u "java/io/Serializable"), (0, .class_ 1), (0, u "java/lang/Object"), (0, .class_ 3)] 3

/-- java/io/Serializable -/
def k5 : Class := { plain "java/io/Serializable" (some 0) with
  accessFlags := 1537
  interfaces := #[]
  cf := some (fileOf pool5 2 #[] #[] 1537 4 #[] #[])
  fields := #[]
  methods := #[]
  instanceTypes := #[]
  staticTypes := #[]
  resolved := Array.replicate 8 none
  statics := none }

/-- the primitive byte -/
def k6 : Class := { plain "byte" none with kind := .primitive 'B', accessFlags := 0x411 }
/-- [B -/
def k7 : Class := { plain "[B" (some 0) with kind := .array 6 .byte, interfaces := #[4, 5], accessFlags := 1041 }

/-- the primitive int -/
def k8 : Class := { plain "int" none with kind := .primitive 'I', accessFlags := 0x411 }
/-- [I -/
def k9 : Class := { plain "[I" (some 0) with kind := .array 8 .int, interfaces := #[4, 5], accessFlags := 1041 }

def heap : Heap := #[]
def classes : Array Class := #[k0, k1, k2, k3, k4, k5, k6, k7, k8, k9]
def interned : List (Array UInt16 × Addr) := []
def slotsUsed : Nat := 0
def theMethod : MethodId := ⟨1, 1⟩
def args0 : Array Value := #[.int 5, .int 7, .int 3, .int 4, .int 1, .long 2]
def aboutOver (below : List Frame) : State where
  vm := { classes := classes, interned := interned.toArray }
  heap := heap
  slotsUsed := slotsUsed
  threads := #[{ frames := .invoking theMethod args0 :: below }]
def below0 : List Frame := [.native { method := ⟨0, 0⟩, args := #[] }]
def about1 : State := aboutOver below0
def p0 : Program := .bare "" "" ""
def e0 : Env := launch0.env 0 0 0
theorem w_frames : about1.frames = Frame.invoking theMethod args0 :: below0 := rfl
set_option maxRecDepth 65536 in
theorem w_args : argsFit about1.vm theMethod args0 = true := by decide +kernel
set_option maxRecDepth 65536 in
theorem w_heap : heapFits about1 = true := by decide +kernel
set_option maxRecDepth 65536 in
theorem w_runnable : about1.curStatus? = some .runnable := by decide +kernel
set_option maxRecDepth 65536 in
theorem w_alone : about1.alone = true := by decide +kernel
set_option maxRecDepth 65536 in
theorem w_named : about1.methodNamed? x = some theMethod := by decide +kernel
set_option maxRecDepth 65536 in
theorem w_hears : about1.hears theMethod below0 = true := by decide +kernel
set_option maxRecDepth 65536 in
theorem w_ripe : about1.ripe theMethod args0 below0 = true := by decide +kernel
theorem w_running : about1.status = .running := rfl
set_option maxRecDepth 65536 in
theorem w_room : about1.hasRoom e0.platform room_1 = true :=
  launch0.hasRoom_least _ room_1 (by decide +kernel) (by decide +kernel) (by decide +kernel) (by decide +kernel) (by decide +kernel) (by decide +kernel)
theorem allAtoms_all (ts : List Jvm.Cond) (a : Array Jvm.Value) (st : Jvm.State) : (allAtoms ts).before a st = ts.all (fun c => c.before a st) := by
  induction ts with
  | nil => rfl
  | cons c t ih =>
    show (Jvm.Cond.and c (allAtoms t)).before a st = _
    rw [Jvm.Cond.before_and, ih, List.all_cons]
def words1 : List Jvm.Cond := Jvm.Cond.code x code maxLocals ret :: tables_1
/-- a 'code' word, met by the world's own term for the bytes: nothing is compared byte by byte -/
theorem code_word {y : MethodName} {bytes : ByteArray} {mx : Nat} {rt : Option FieldType} {a : Array Value} {s : State} {m : MethodId} {meth : Method} {c : Code} (h1 : s.methodNamed? y = some m) (h2 : s.vm.method? m = some meth) (h3 : meth.code = some c) (h4 : c.code = bytes)
    (h5 : (c.maxLocals == mx && c.exceptionTable.isEmpty && decide (c.maxStack ≤ mostOperands) && decide (meth.sig.returnType = rt) && !meth.locks && decide (parseMethodDescriptor y.desc = some meth.sig)) = true) : (Jvm.Cond.code y bytes mx rt).before a s = true := by
  simp only [Bool.and_eq_true, beq_iff_eq, Bool.not_eq_true', decide_eq_true_eq] at h5
  obtain ⟨⟨⟨⟨⟨g1, g2⟩, g3⟩, g4⟩, g5⟩, g6⟩ := h5
  simp [Cond.before, Cond.holds, Cond.value, h1, h2, h3, h4, g1, g2, g3, g4, g5, g6]
def isCode : Jvm.Cond → Bool
  | .code _ _ _ _ => true
  | _ => false
theorem all_split {L : List Jvm.Cond} {P : Jvm.Cond → Bool} (h1 : L.all (fun c => isCode c || P c) = true) (h2 : ∀ c ∈ L.filter isCode, P c = true) : L.all P = true := by
  refine List.all_eq_true.mpr fun c hc => ?_
  have h := List.all_eq_true.mp h1 c hc
  rcases Bool.eq_false_or_eq_true (isCode c) with hi | hi
  · exact h2 c (List.mem_filter.mpr ⟨hc, hi⟩)
  · simpa [hi] using h
set_option maxRecDepth 65536 in
theorem w_c0 : (Jvm.Cond.code x code maxLocals ret).before args0 about1 = true := code_word (m := ⟨1, 1⟩) (meth := k1m1) (c := k1c1) (by decide +kernel) rfl rfl rfl (by decide +kernel)
set_option maxRecDepth 65536 in
theorem w_c1 : (Jvm.Cond.code ({ cls := "com/example/crisp_typedef/crisptypedef/NumberText$Significand", name := "<init>", desc := "(ZIIIJ)V" } : Jvm.MethodName) prog_22_method_1_code (7 : Nat) (Option.none : Option Jvm.ClassFile.FieldType)).before args0 about1 = true := code_word (m := ⟨3, 0⟩) (meth := k3m0) (c := k3c0) (by decide +kernel) rfl rfl rfl (by decide +kernel)
set_option maxRecDepth 65536 in
theorem w_c2 : (Jvm.Cond.code ({ cls := "java/lang/Record", name := "<init>", desc := "()V" } : Jvm.MethodName) jdk_30_method_1_code (1 : Nat) (Option.none : Option Jvm.ClassFile.FieldType)).before args0 about1 = true := code_word (m := ⟨2, 0⟩) (meth := k2m0) (c := k2c0) (by decide +kernel) rfl rfl rfl (by decide +kernel)
set_option maxRecDepth 65536 in
theorem w_c3 : (Jvm.Cond.code ({ cls := "java/lang/Object", name := "<init>", desc := "()V" } : Jvm.MethodName) object_method_1_code (1 : Nat) (Option.none : Option Jvm.ClassFile.FieldType)).before args0 about1 = true := code_word (m := ⟨0, 0⟩) (meth := k0m0) (c := k0c0) (by decide +kernel) rfl rfl rfl (by decide +kernel)
set_option maxRecDepth 65536 in
theorem w_c4 : (Jvm.Cond.code ({ cls := "com/example/crisp_typedef/crisptypedef/NumberText$Significand", name := "digitCount", desc := "()I" } : Jvm.MethodName) prog_22_method_3_code (1 : Nat) (Option.some Jvm.ClassFile.FieldType.int)).before args0 about1 = true := code_word (m := ⟨3, 1⟩) (meth := k3m1) (c := k3c1) (by decide +kernel) rfl rfl rfl (by decide +kernel)
def codes1 : List Jvm.Cond := [Jvm.Cond.code x code maxLocals ret, Jvm.Cond.code ({ cls := "com/example/crisp_typedef/crisptypedef/NumberText$Significand", name := "<init>", desc := "(ZIIIJ)V" } : Jvm.MethodName) prog_22_method_1_code (7 : Nat) (Option.none : Option Jvm.ClassFile.FieldType), Jvm.Cond.code ({ cls := "java/lang/Record", name := "<init>", desc := "()V" } : Jvm.MethodName) jdk_30_method_1_code (1 : Nat) (Option.none : Option Jvm.ClassFile.FieldType), Jvm.Cond.code ({ cls := "java/lang/Object", name := "<init>", desc := "()V" } : Jvm.MethodName) object_method_1_code (1 : Nat) (Option.none : Option Jvm.ClassFile.FieldType), Jvm.Cond.code ({ cls := "com/example/crisp_typedef/crisptypedef/NumberText$Significand", name := "digitCount", desc := "()I" } : Jvm.MethodName) prog_22_method_3_code (1 : Nat) (Option.some Jvm.ClassFile.FieldType.int)]
set_option maxRecDepth 65536 in
theorem codes_eq : words1.filter isCode = codes1 := rfl
theorem w_codes : ∀ c ∈ words1.filter isCode, c.before args0 about1 = true := by
  rw [codes_eq]
  intro c hc
  simp only [codes1, List.mem_cons, List.not_mem_nil, or_false] at hc
  rcases hc with rfl | rfl | rfl | rfl | rfl
  · exact w_c0
  · exact w_c1
  · exact w_c2
  · exact w_c3
  · exact w_c4
set_option maxRecDepth 65536 in
theorem w_t1 : (words1.take 24).all (fun c => isCode c || c.before args0 about1) = true := by decide +kernel
set_option maxRecDepth 65536 in
theorem w_t2 : (words1.drop 24).all (fun c => isCode c || c.before args0 about1) = true := by decide +kernel
theorem w_tables : (allAtoms (Jvm.Cond.code x code maxLocals ret :: tables_1)).before args0 about1 = true := by
  rw [allAtoms_all]
  show words1.all (fun c => c.before args0 about1) = true
  refine all_split ?_ w_codes
  rw [← List.take_append_drop 24 words1, List.all_append, w_t1, w_t2]
  rfl
set_option maxRecDepth 65536 in
theorem w_case : (Jvm.Cond.and given_1 narrow_1).before args0 about1 = true := by decide +kernel
theorem w_applies : (headSpec (Jvm.Cond.code x code maxLocals ret :: tables_1) room_1).applies x e0.platform about1 = true :=
  (Spec.applies_iff w_frames).mpr ⟨w_running, w_runnable, w_alone, w_named, w_hears, w_ripe, w_room, w_tables⟩
theorem atStart : AtStart classFile x code maxLocals ret World_1 tables_1 room_1 Calls_1 rest_1 Pre_1 launch0 p0 e0 about1 theMethod args0 below0 :=
  ⟨lists_1, trivial, launch0.admits_env _ _ _, launch0.least_env, fairChoices_fair.cas, fairChoices_fair.clock, w_frames, w_args, w_heap, w_applies, trivial, trivial, w_case⟩
end start1
theorem witness_1 : WitnessClaimed_1 := ⟨start1.p0, start1.e0, start1.about1, start1.theMethod, start1.args0, start1.below0, start1.atStart⟩
end Jvm.Pilot.@@N@@
