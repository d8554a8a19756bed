import JvmDerived
import JvmDerived.Pilot.@@N@@Statement
import JvmDerived.Pilot.@@N@@Code
set_option linter.unusedVariables false
set_option linter.unusedSimpArgs false
namespace Jvm.Pilot.@@N@@
open Jvm Jvm.ClassFile Sem Op Lib Jvm.Free Jvm.Stand Jvm.LawKit Jvm.RoadKit Bundle Jvm.Pilot.@@N@@.Jvm.D
def G (p : Program) (l : Launch) (e : Env) (R : Room) (s : State) (m : MethodId) (args : Array Value) (below : List Frame) (meth : Method) (c : Code) (n0 : Nat) (Q : Option Value → Heap → Prop) (h : Heap) (k n : Nat) (pc : Nat) (Ls : Array Slot) (st : List Value) : Prop :=
  ∀ T locs cells slots, Stand p l e R s m args below meth c T locs cells slots → Fr n0 locs → T.heap = h → cells ≤ k → slots ≤ n →
    ∃ s₂ o, Steps p.tables e below (T.setTop (mkF m pc Ls st)) s₂ ∧ s₂.status = .running ∧ Ended s₂ below o ∧ ∃ v L, o = .returned v ∧ (Q v s₂.heap ∧ Fr n0 L) ∧ FrameEnd s o s₂ L R.cells R.slots
def Cx (Z : State) (p : Program) (s : State) (m : MethodId) (meth : Method) (c : Code) (R : Room) (k n : Nat) (own nm : String) (code : ByteArray) (maxL : Nat) (ret : Option FieldType) : Prop :=
  p.tables.exec = Jvm.exec ∧ Z.Warmed39 s.vm ∧ s.vm.findClass own = some m.cls ∧ c.code = code ∧ c.maxLocals = maxL ∧ meth.sig.returnType = ret ∧ meth.name = nm ∧ meth.locks = false
def Dc (code : ByteArray) (pc : Nat) (i : Instr) (len pc' : Nat) : Prop := decode code pc = .ok (i, len) ∧ pc + len = pc'
def Bi (code : ByteArray) (pc : Nat) (f : Int → Instr) (pcY pcN : Nat) : Prop := ∃ o, decode code pc = .ok (f o, 3) ∧ 0 ≤ (pc : Int) + o ∧ ((pc : Int) + o).toNat = pcY ∧ pc + 3 = pcN
def Met (l : Launch) (Z : State) (y : MethodName) (bytes : ByteArray) (maxL : Nat) (ret : Option FieldType) (rm : Room) (as : Array Value) (h0 : Heap) (Q : Option Value → Heap → Prop) : Prop :=
  ∀ ws, MetFree l y (head1 (Jvm.Cond.code y bytes maxL ret :: ws) rm) (fun a U => a = as ∧ Z.Warmed39 U.vm ∧ U.heap = h0) (fun _ _ _ _ _ => True) (fun _ U o U' => ∃ v L, o = .returned v ∧ (Q v U'.heap ∧ Fr Z.heap.size L) ∧ FrameEnd U o U' L rm.cells rm.slots)

def Arx (Z : State) (h : Heap) (a : Addr) (k : ClassId) (ty : FieldType) (z : Int32) (vs : List Value) (dv : Value) (ad : String) : Prop := Arv Z h a k ty z vs dv ∧ Exa Z h a ad
section ArxS
variable {Z : State} {h h' : Heap} {a x : Addr} {k : ClassId} {ty : FieldType} {z : Int32} {vs vs' : List Value} {dv w : Value} {ad : String} {sl : Nat} {ws : List Addr}
theorem Arx.ext (F : Arx Z h a k ty z vs dv ad) (E : Ext h h') : Arx Z h' a k ty z vs dv ad := ⟨F.1.ext E, F.2.ext E⟩
theorem Arx.other (F : Arx Z h a k ty z vs dv ad) (W : Wr h h' x sl w) (q : a ≠ x) : Arx Z h' a k ty z vs dv ad := ⟨F.1.other W q, F.2.wr W⟩
theorem Arx.keep (F : Arx Z h a k ty z vs dv ad) (K : Keep h h' ws) (q : a ∉ ws) : Arx Z h' a k ty z vs dv ad := ⟨F.1.keep K q, F.2.keep K⟩
theorem Arx.lt (F : Arx Z h a k ty z vs dv ad) : a < h.size := F.1.lt
theorem Arx.pad (F : Arx Z h a k ty z vs dv ad) (q : ∀ i, vs'.getD i dv = vs.getD i dv) : Arx Z h a k ty z vs' dv ad := ⟨F.1.pad q, F.2⟩
theorem sto_of {C : String} {y : Addr} (A : Arx Z h a k ty z vs dv ad) (O : Ovr Z k C) (I : Ins Z h y C true) : Sto Z h a (.ref y) := by
  obtain ⟨⟨c, Ar, q, -⟩, -⟩ := A; exact Sto.ofV Ar q O I
theorem sto_ofA {C : String} {y : Addr} {t : FieldType} (A : Arx Z h a k ty z vs dv ad) (O : OvrA Z k t C) (I : Ins Z h y C true) : Sto Z h a (.ref y) := by
  obtain ⟨⟨c, Ar, q, -⟩, -⟩ := A; exact Sto.ofVA Ar q O I
end ArxS
section Walk
variable {p : Program} {l : Launch} {e : Env} {R : Room} {s : State} {m : MethodId} {args : Array Value} {below : List Frame} {meth : Method} {c : Code} {Z : State} {a0 : Array Value} {k n : Nat} {own nm : String} {code : ByteArray} {maxL : Nat} {ret : Option FieldType} {n0 : Nat} {Q : Option Value → Heap → Prop} {h : Heap} {pc pc' pcY pcN : Nat} {Ls : Array Slot} {st rest : List Value}
theorem G.mono {k' n' : Nat} (H : G p l e R s m args below meth c Z.heap.size Q h k n pc Ls st) (hk : k' ≤ k) (hn : n' ≤ n) : G p l e R s m args below meth c Z.heap.size Q h k' n' pc Ls st :=
  fun T locs cells slots X N eT a b => H T locs cells slots X N eT (Nat.le_trans a hk) (Nat.le_trans b hn)
theorem G.cast {st' : List Value} (H : G p l e R s m args below meth c Z.heap.size Q h k n pc Ls st') (q : st = st') : G p l e R s m args below meth c Z.heap.size Q h k n pc Ls st := q ▸ H
theorem G.post {Q' : Option Value → Heap → Prop} (H : G p l e R s m args below meth c Z.heap.size Q h k n pc Ls st) (q : ∀ v h, Q v h → Q' v h) : G p l e R s m args below meth c Z.heap.size Q' h k n pc Ls st :=
  fun T locs cells slots X N eT a b => by
    obtain ⟨s₂, o, h1, h2, h3, v, L, h4, ⟨h5, h6⟩, h7⟩ := H T locs cells slots X N eT a b
    exact ⟨s₂, o, h1, h2, h3, v, L, h4, ⟨q _ _ h5, h6⟩, h7⟩
theorem met_of {y : MethodName} {bytes : ByteArray} {rm : Room} {as : Array Value} {h0 : Heap} (pn : plainFor y = true) (ef : ∀ m, entryFrame m as maxL = mkF m 0 Ls [])
    (body : ∀ p e s m below meth c, Cx Z p s m meth c rm 0 0 y.cls y.name bytes maxL ret → G p l e rm s m as below meth c Z.heap.size Q h0 0 0 0 Ls []) : Met l Z y bytes maxL ret rm as h0 Q := by
  intro ws
  refine MetFree.of_bodySF pn hisR ?_
  intro p e s m args below meth c s₁ Bd hml0 hP hK
  obtain ⟨rfl, hZ, hh⟩ := hP
  have e0 : s₁.heap = h0 := by rw [← hh, Bd.state]; rfl
  have X0 : Stand p l e rm s m args below meth c s₁ [] 0 0 := Stand.of_body Bd
  rw [ef m]
  exact body p e s m below meth c ⟨Bd.exec, hZ, findClass_of_methodNamed Bd.named, Bd.bytes, hml0, Bd.returns, (name_of_methodNamed Bd.named Bd.method).1, BodyLoose.notSynchronized Bd⟩ s₁ [] 0 0 X0 (Fr.nil _) e0 (Nat.le_refl _) (Nat.le_refl _)
theorem g_iloadN {kx nx : Nat} (cx : Cx Z p s m meth c R kx nx own nm code maxL ret) {i : Fin 4} {v : Int32} (d : Dc code pc (.iload_n i) 1 pc') (hl : Ls[i.val]? = some (.val (.int v))) (H : G p l e R s m args below meth c Z.heap.size Q h k n pc' Ls (.int v :: st)) : G p l e R s m args below meth c Z.heap.size Q h k n pc Ls st := by
  obtain ⟨hx, hZ, hown, rfl, hml, hret, hnm, -⟩ := cx
  obtain ⟨d, rfl⟩ := d
  intro T locs cells slots X N eT hk hn
  obtain ⟨s₂, o, st2, r⟩ := H T locs cells slots X N eT hk hn
  exact ⟨s₂, o, Jvm.Free.XS.iloadN X.here hx rfl d hl st2, r⟩
theorem g_iload {kx nx : Nat} (cx : Cx Z p s m meth c R kx nx own nm code maxL ret) {i : Nat} {v : Int32} (d : Dc code pc (.iload i) 2 pc') (hl : Ls[i]? = some (.val (.int v))) (H : G p l e R s m args below meth c Z.heap.size Q h k n pc' Ls (.int v :: st)) : G p l e R s m args below meth c Z.heap.size Q h k n pc Ls st := by
  obtain ⟨hx, hZ, hown, rfl, hml, hret, hnm, -⟩ := cx
  obtain ⟨d, rfl⟩ := d
  intro T locs cells slots X N eT hk hn
  obtain ⟨s₂, o, st2, r⟩ := H T locs cells slots X N eT hk hn
  exact ⟨s₂, o, Jvm.Free.XS.iload X.here hx rfl d hl st2, r⟩
theorem g_istoreN {kx nx : Nat} (cx : Cx Z p s m meth c R kx nx own nm code maxL ret) {i : Fin 4} {v : Int32} {Ls' : Array Slot} (d : Dc code pc (.istore_n i) 1 pc') (hl : storeLocals Ls i.val (.int v) = some Ls') (H : G p l e R s m args below meth c Z.heap.size Q h k n pc' Ls' st) : G p l e R s m args below meth c Z.heap.size Q h k n pc Ls (.int v :: st) := by
  obtain ⟨hx, hZ, hown, rfl, hml, hret, hnm, -⟩ := cx
  obtain ⟨d, rfl⟩ := d
  intro T locs cells slots X N eT hk hn
  obtain ⟨s₂, o, st2, r⟩ := H T locs cells slots X N eT hk hn
  exact ⟨s₂, o, Jvm.Free.XS.istoreN X.here hx rfl d rfl hl st2, r⟩
theorem g_istore {kx nx : Nat} (cx : Cx Z p s m meth c R kx nx own nm code maxL ret) {i : Nat} {v : Int32} {Ls' : Array Slot} (d : Dc code pc (.istore i) 2 pc') (hl : storeLocals Ls i (.int v) = some Ls') (H : G p l e R s m args below meth c Z.heap.size Q h k n pc' Ls' st) : G p l e R s m args below meth c Z.heap.size Q h k n pc Ls (.int v :: st) := by
  obtain ⟨hx, hZ, hown, rfl, hml, hret, hnm, -⟩ := cx
  obtain ⟨d, rfl⟩ := d
  intro T locs cells slots X N eT hk hn
  obtain ⟨s₂, o, st2, r⟩ := H T locs cells slots X N eT hk hn
  exact ⟨s₂, o, Jvm.Free.XS.istore X.here hx rfl d rfl hl st2, r⟩
theorem g_lloadN {kx nx : Nat} (cx : Cx Z p s m meth c R kx nx own nm code maxL ret) {i : Fin 4} {v : Int64} (d : Dc code pc (.lload_n i) 1 pc') (hl : Ls[i.val]? = some (.val (.long v))) (H : G p l e R s m args below meth c Z.heap.size Q h k n pc' Ls (.long v :: st)) : G p l e R s m args below meth c Z.heap.size Q h k n pc Ls st := by
  obtain ⟨hx, hZ, hown, rfl, hml, hret, hnm, -⟩ := cx
  obtain ⟨d, rfl⟩ := d
  intro T locs cells slots X N eT hk hn
  obtain ⟨s₂, o, st2, r⟩ := H T locs cells slots X N eT hk hn
  exact ⟨s₂, o, Jvm.Free.XS.lloadN X.here hx rfl d hl st2, r⟩
theorem g_lload {kx nx : Nat} (cx : Cx Z p s m meth c R kx nx own nm code maxL ret) {i : Nat} {v : Int64} (d : Dc code pc (.lload i) 2 pc') (hl : Ls[i]? = some (.val (.long v))) (H : G p l e R s m args below meth c Z.heap.size Q h k n pc' Ls (.long v :: st)) : G p l e R s m args below meth c Z.heap.size Q h k n pc Ls st := by
  obtain ⟨hx, hZ, hown, rfl, hml, hret, hnm, -⟩ := cx
  obtain ⟨d, rfl⟩ := d
  intro T locs cells slots X N eT hk hn
  obtain ⟨s₂, o, st2, r⟩ := H T locs cells slots X N eT hk hn
  exact ⟨s₂, o, Jvm.Free.XS.lload X.here hx rfl d hl st2, r⟩
theorem g_lstoreN {kx nx : Nat} (cx : Cx Z p s m meth c R kx nx own nm code maxL ret) {i : Fin 4} {v : Int64} {Ls' : Array Slot} (d : Dc code pc (.lstore_n i) 1 pc') (hl : storeLocals Ls i.val (.long v) = some Ls') (H : G p l e R s m args below meth c Z.heap.size Q h k n pc' Ls' st) : G p l e R s m args below meth c Z.heap.size Q h k n pc Ls (.long v :: st) := by
  obtain ⟨hx, hZ, hown, rfl, hml, hret, hnm, -⟩ := cx
  obtain ⟨d, rfl⟩ := d
  intro T locs cells slots X N eT hk hn
  obtain ⟨s₂, o, st2, r⟩ := H T locs cells slots X N eT hk hn
  exact ⟨s₂, o, Jvm.Free.XS.lstoreN X.here hx rfl d rfl hl st2, r⟩
theorem g_lstore {kx nx : Nat} (cx : Cx Z p s m meth c R kx nx own nm code maxL ret) {i : Nat} {v : Int64} {Ls' : Array Slot} (d : Dc code pc (.lstore i) 2 pc') (hl : storeLocals Ls i (.long v) = some Ls') (H : G p l e R s m args below meth c Z.heap.size Q h k n pc' Ls' st) : G p l e R s m args below meth c Z.heap.size Q h k n pc Ls (.long v :: st) := by
  obtain ⟨hx, hZ, hown, rfl, hml, hret, hnm, -⟩ := cx
  obtain ⟨d, rfl⟩ := d
  intro T locs cells slots X N eT hk hn
  obtain ⟨s₂, o, st2, r⟩ := H T locs cells slots X N eT hk hn
  exact ⟨s₂, o, Jvm.Free.XS.lstore X.here hx rfl d rfl hl st2, r⟩
theorem g_aloadN {kx nx : Nat} (cx : Cx Z p s m meth c R kx nx own nm code maxL ret) {i : Fin 4} {v : Value} (d : Dc code pc (.aload_n i) 1 pc') (hl : Ls[i.val]? = some (.val v)) (hv : v.isRef = true) (H : G p l e R s m args below meth c Z.heap.size Q h k n pc' Ls (v :: st)) : G p l e R s m args below meth c Z.heap.size Q h k n pc Ls st := by
  obtain ⟨hx, hZ, hown, rfl, hml, hret, hnm, -⟩ := cx
  obtain ⟨d, rfl⟩ := d
  intro T locs cells slots X N eT hk hn
  obtain ⟨s₂, o, st2, r⟩ := H T locs cells slots X N eT hk hn
  exact ⟨s₂, o, Jvm.Free.XS.aloadN X.here hx rfl d hl hv st2, r⟩
theorem g_aload {kx nx : Nat} (cx : Cx Z p s m meth c R kx nx own nm code maxL ret) {i : Nat} {v : Value} (d : Dc code pc (.aload i) 2 pc') (hl : Ls[i]? = some (.val v)) (hv : v.isRef = true) (H : G p l e R s m args below meth c Z.heap.size Q h k n pc' Ls (v :: st)) : G p l e R s m args below meth c Z.heap.size Q h k n pc Ls st := by
  obtain ⟨hx, hZ, hown, rfl, hml, hret, hnm, -⟩ := cx
  obtain ⟨d, rfl⟩ := d
  intro T locs cells slots X N eT hk hn
  obtain ⟨s₂, o, st2, r⟩ := H T locs cells slots X N eT hk hn
  exact ⟨s₂, o, Jvm.Free.XS.aload X.here hx rfl d hl hv st2, r⟩
theorem g_astoreN {kx nx : Nat} (cx : Cx Z p s m meth c R kx nx own nm code maxL ret) {i : Fin 4} {v : Value} {Ls' : Array Slot} (d : Dc code pc (.astore_n i) 1 pc') (hv : v.isRef = true) (hl : storeLocals Ls i.val v = some Ls') (H : G p l e R s m args below meth c Z.heap.size Q h k n pc' Ls' st) : G p l e R s m args below meth c Z.heap.size Q h k n pc Ls (v :: st) := by
  obtain ⟨hx, hZ, hown, rfl, hml, hret, hnm, -⟩ := cx
  obtain ⟨d, rfl⟩ := d
  intro T locs cells slots X N eT hk hn
  obtain ⟨s₂, o, st2, r⟩ := H T locs cells slots X N eT hk hn
  exact ⟨s₂, o, Jvm.Free.XS.astoreN X.here hx rfl d rfl hv hl st2, r⟩
theorem g_astore {kx nx : Nat} (cx : Cx Z p s m meth c R kx nx own nm code maxL ret) {i : Nat} {v : Value} {Ls' : Array Slot} (d : Dc code pc (.astore i) 2 pc') (hv : v.isRef = true) (hl : storeLocals Ls i v = some Ls') (H : G p l e R s m args below meth c Z.heap.size Q h k n pc' Ls' st) : G p l e R s m args below meth c Z.heap.size Q h k n pc Ls (v :: st) := by
  obtain ⟨hx, hZ, hown, rfl, hml, hret, hnm, -⟩ := cx
  obtain ⟨d, rfl⟩ := d
  intro T locs cells slots X N eT hk hn
  obtain ⟨s₂, o, st2, r⟩ := H T locs cells slots X N eT hk hn
  exact ⟨s₂, o, Jvm.Free.XS.astore X.here hx rfl d rfl hv hl st2, r⟩
theorem g_iconst {kx nx : Nat} (cx : Cx Z p s m meth c R kx nx own nm code maxL ret) {i : Int} {v : Int32} (d : Dc code pc (.iconst i) 1 pc') (hv : Int32.ofInt i = v) (H : G p l e R s m args below meth c Z.heap.size Q h k n pc' Ls (.int v :: st)) : G p l e R s m args below meth c Z.heap.size Q h k n pc Ls st := by
  obtain ⟨hx, hZ, hown, rfl, hml, hret, hnm, -⟩ := cx
  obtain ⟨d, rfl⟩ := d
  intro T locs cells slots X N eT hk hn
  obtain ⟨s₂, o, st2, r⟩ := H T locs cells slots X N eT hk hn
  exact ⟨s₂, o, Jvm.Free.XS.iconst X.here hx rfl d (by rw [hv]; exact st2), r⟩
theorem g_bipush {kx nx : Nat} (cx : Cx Z p s m meth c R kx nx own nm code maxL ret) {i : Int} {v : Int32} (d : Dc code pc (.bipush i) 2 pc') (hv : (Int8.ofInt i).toInt32 = v) (H : G p l e R s m args below meth c Z.heap.size Q h k n pc' Ls (.int v :: st)) : G p l e R s m args below meth c Z.heap.size Q h k n pc Ls st := by
  obtain ⟨hx, hZ, hown, rfl, hml, hret, hnm, -⟩ := cx
  obtain ⟨d, rfl⟩ := d
  intro T locs cells slots X N eT hk hn
  obtain ⟨s₂, o, st2, r⟩ := H T locs cells slots X N eT hk hn
  exact ⟨s₂, o, Jvm.Free.XS.bipush X.here hx rfl d (by rw [hv]; exact st2), r⟩
theorem g_sipush {kx nx : Nat} (cx : Cx Z p s m meth c R kx nx own nm code maxL ret) {i : Int} {v : Int32} (d : Dc code pc (.sipush i) 3 pc') (hv : (Int16.ofInt i).toInt32 = v) (H : G p l e R s m args below meth c Z.heap.size Q h k n pc' Ls (.int v :: st)) : G p l e R s m args below meth c Z.heap.size Q h k n pc Ls st := by
  obtain ⟨hx, hZ, hown, rfl, hml, hret, hnm, -⟩ := cx
  obtain ⟨d, rfl⟩ := d
  intro T locs cells slots X N eT hk hn
  obtain ⟨s₂, o, st2, r⟩ := H T locs cells slots X N eT hk hn
  exact ⟨s₂, o, Jvm.Free.XS.sipush X.here hx rfl d (by rw [hv]; exact st2), r⟩
theorem g_lconst {kx nx : Nat} (cx : Cx Z p s m meth c R kx nx own nm code maxL ret) {i : Fin 2} {v : Int64} (d : Dc code pc (.lconst i) 1 pc') (hv : Int64.ofNat i = v) (H : G p l e R s m args below meth c Z.heap.size Q h k n pc' Ls (.long v :: st)) : G p l e R s m args below meth c Z.heap.size Q h k n pc Ls st := by
  obtain ⟨hx, hZ, hown, rfl, hml, hret, hnm, -⟩ := cx
  obtain ⟨d, rfl⟩ := d
  intro T locs cells slots X N eT hk hn
  obtain ⟨s₂, o, st2, r⟩ := H T locs cells slots X N eT hk hn
  exact ⟨s₂, o, Jvm.Free.XS.lconst X.here hx rfl d (by rw [hv]; exact st2), r⟩
theorem g_aconst_null {kx nx : Nat} (cx : Cx Z p s m meth c R kx nx own nm code maxL ret)  (d : Dc code pc .aconst_null 1 pc') (H : G p l e R s m args below meth c Z.heap.size Q h k n pc' Ls (.null :: st)) : G p l e R s m args below meth c Z.heap.size Q h k n pc Ls st := by
  obtain ⟨hx, hZ, hown, rfl, hml, hret, hnm, -⟩ := cx
  obtain ⟨d, rfl⟩ := d
  intro T locs cells slots X N eT hk hn
  obtain ⟨s₂, o, st2, r⟩ := H T locs cells slots X N eT hk hn
  exact ⟨s₂, o, Jvm.Free.XS.aconstNull X.here hx rfl d  st2, r⟩
theorem g_iadd {kx nx : Nat} (cx : Cx Z p s m meth c R kx nx own nm code maxL ret) {x y : Int32} (d : Dc code pc .iadd 1 pc') (H : G p l e R s m args below meth c Z.heap.size Q h k n pc' Ls (.int (x + y) :: st)) : G p l e R s m args below meth c Z.heap.size Q h k n pc Ls (.int y :: .int x :: st) := by
  obtain ⟨hx, hZ, hown, rfl, hml, hret, hnm, -⟩ := cx
  obtain ⟨d, rfl⟩ := d
  intro T locs cells slots X N eT hk hn
  obtain ⟨s₂, o, st2, r⟩ := H T locs cells slots X N eT hk hn
  exact ⟨s₂, o, Jvm.Free.XS.iadd X.here hx rfl d rfl st2, r⟩
theorem g_ladd {kx nx : Nat} (cx : Cx Z p s m meth c R kx nx own nm code maxL ret) {x y : Int64} (d : Dc code pc .ladd 1 pc') (H : G p l e R s m args below meth c Z.heap.size Q h k n pc' Ls (.long (x + y) :: st)) : G p l e R s m args below meth c Z.heap.size Q h k n pc Ls (.long y :: .long x :: st) := by
  obtain ⟨hx, hZ, hown, rfl, hml, hret, hnm, -⟩ := cx
  obtain ⟨d, rfl⟩ := d
  intro T locs cells slots X N eT hk hn
  obtain ⟨s₂, o, st2, r⟩ := H T locs cells slots X N eT hk hn
  exact ⟨s₂, o, Jvm.Free.XS.ladd X.here hx rfl d rfl st2, r⟩
theorem g_isub {kx nx : Nat} (cx : Cx Z p s m meth c R kx nx own nm code maxL ret) {x y : Int32} (d : Dc code pc .isub 1 pc') (H : G p l e R s m args below meth c Z.heap.size Q h k n pc' Ls (.int (x - y) :: st)) : G p l e R s m args below meth c Z.heap.size Q h k n pc Ls (.int y :: .int x :: st) := by
  obtain ⟨hx, hZ, hown, rfl, hml, hret, hnm, -⟩ := cx
  obtain ⟨d, rfl⟩ := d
  intro T locs cells slots X N eT hk hn
  obtain ⟨s₂, o, st2, r⟩ := H T locs cells slots X N eT hk hn
  exact ⟨s₂, o, Jvm.Free.XS.isub X.here hx rfl d rfl st2, r⟩
theorem g_lsub {kx nx : Nat} (cx : Cx Z p s m meth c R kx nx own nm code maxL ret) {x y : Int64} (d : Dc code pc .lsub 1 pc') (H : G p l e R s m args below meth c Z.heap.size Q h k n pc' Ls (.long (x - y) :: st)) : G p l e R s m args below meth c Z.heap.size Q h k n pc Ls (.long y :: .long x :: st) := by
  obtain ⟨hx, hZ, hown, rfl, hml, hret, hnm, -⟩ := cx
  obtain ⟨d, rfl⟩ := d
  intro T locs cells slots X N eT hk hn
  obtain ⟨s₂, o, st2, r⟩ := H T locs cells slots X N eT hk hn
  exact ⟨s₂, o, Jvm.Free.XS.lsub X.here hx rfl d rfl st2, r⟩
theorem g_imul {kx nx : Nat} (cx : Cx Z p s m meth c R kx nx own nm code maxL ret) {x y : Int32} (d : Dc code pc .imul 1 pc') (H : G p l e R s m args below meth c Z.heap.size Q h k n pc' Ls (.int (x * y) :: st)) : G p l e R s m args below meth c Z.heap.size Q h k n pc Ls (.int y :: .int x :: st) := by
  obtain ⟨hx, hZ, hown, rfl, hml, hret, hnm, -⟩ := cx
  obtain ⟨d, rfl⟩ := d
  intro T locs cells slots X N eT hk hn
  obtain ⟨s₂, o, st2, r⟩ := H T locs cells slots X N eT hk hn
  exact ⟨s₂, o, Jvm.Free.XS.imul X.here hx rfl d rfl st2, r⟩
theorem g_lmul {kx nx : Nat} (cx : Cx Z p s m meth c R kx nx own nm code maxL ret) {x y : Int64} (d : Dc code pc .lmul 1 pc') (H : G p l e R s m args below meth c Z.heap.size Q h k n pc' Ls (.long (x * y) :: st)) : G p l e R s m args below meth c Z.heap.size Q h k n pc Ls (.long y :: .long x :: st) := by
  obtain ⟨hx, hZ, hown, rfl, hml, hret, hnm, -⟩ := cx
  obtain ⟨d, rfl⟩ := d
  intro T locs cells slots X N eT hk hn
  obtain ⟨s₂, o, st2, r⟩ := H T locs cells slots X N eT hk hn
  exact ⟨s₂, o, Jvm.Free.XS.lmul X.here hx rfl d rfl st2, r⟩
theorem g_iand {kx nx : Nat} (cx : Cx Z p s m meth c R kx nx own nm code maxL ret) {x y : Int32} (d : Dc code pc .iand 1 pc') (H : G p l e R s m args below meth c Z.heap.size Q h k n pc' Ls (.int (x &&& y) :: st)) : G p l e R s m args below meth c Z.heap.size Q h k n pc Ls (.int y :: .int x :: st) := by
  obtain ⟨hx, hZ, hown, rfl, hml, hret, hnm, -⟩ := cx
  obtain ⟨d, rfl⟩ := d
  intro T locs cells slots X N eT hk hn
  obtain ⟨s₂, o, st2, r⟩ := H T locs cells slots X N eT hk hn
  exact ⟨s₂, o, Jvm.Free.XS.iand X.here hx rfl d rfl st2, r⟩
theorem g_land {kx nx : Nat} (cx : Cx Z p s m meth c R kx nx own nm code maxL ret) {x y : Int64} (d : Dc code pc .land 1 pc') (H : G p l e R s m args below meth c Z.heap.size Q h k n pc' Ls (.long (x &&& y) :: st)) : G p l e R s m args below meth c Z.heap.size Q h k n pc Ls (.long y :: .long x :: st) := by
  obtain ⟨hx, hZ, hown, rfl, hml, hret, hnm, -⟩ := cx
  obtain ⟨d, rfl⟩ := d
  intro T locs cells slots X N eT hk hn
  obtain ⟨s₂, o, st2, r⟩ := H T locs cells slots X N eT hk hn
  exact ⟨s₂, o, Jvm.Free.XS.land X.here hx rfl d rfl st2, r⟩
theorem g_ior {kx nx : Nat} (cx : Cx Z p s m meth c R kx nx own nm code maxL ret) {x y : Int32} (d : Dc code pc .ior 1 pc') (H : G p l e R s m args below meth c Z.heap.size Q h k n pc' Ls (.int (x ||| y) :: st)) : G p l e R s m args below meth c Z.heap.size Q h k n pc Ls (.int y :: .int x :: st) := by
  obtain ⟨hx, hZ, hown, rfl, hml, hret, hnm, -⟩ := cx
  obtain ⟨d, rfl⟩ := d
  intro T locs cells slots X N eT hk hn
  obtain ⟨s₂, o, st2, r⟩ := H T locs cells slots X N eT hk hn
  exact ⟨s₂, o, Jvm.Free.XS.ior X.here hx rfl d rfl st2, r⟩
theorem g_lor {kx nx : Nat} (cx : Cx Z p s m meth c R kx nx own nm code maxL ret) {x y : Int64} (d : Dc code pc .lor 1 pc') (H : G p l e R s m args below meth c Z.heap.size Q h k n pc' Ls (.long (x ||| y) :: st)) : G p l e R s m args below meth c Z.heap.size Q h k n pc Ls (.long y :: .long x :: st) := by
  obtain ⟨hx, hZ, hown, rfl, hml, hret, hnm, -⟩ := cx
  obtain ⟨d, rfl⟩ := d
  intro T locs cells slots X N eT hk hn
  obtain ⟨s₂, o, st2, r⟩ := H T locs cells slots X N eT hk hn
  exact ⟨s₂, o, Jvm.Free.XS.lor X.here hx rfl d rfl st2, r⟩
theorem g_ixor {kx nx : Nat} (cx : Cx Z p s m meth c R kx nx own nm code maxL ret) {x y : Int32} (d : Dc code pc .ixor 1 pc') (H : G p l e R s m args below meth c Z.heap.size Q h k n pc' Ls (.int (x ^^^ y) :: st)) : G p l e R s m args below meth c Z.heap.size Q h k n pc Ls (.int y :: .int x :: st) := by
  obtain ⟨hx, hZ, hown, rfl, hml, hret, hnm, -⟩ := cx
  obtain ⟨d, rfl⟩ := d
  intro T locs cells slots X N eT hk hn
  obtain ⟨s₂, o, st2, r⟩ := H T locs cells slots X N eT hk hn
  exact ⟨s₂, o, Jvm.Free.XS.ixor X.here hx rfl d rfl st2, r⟩
theorem g_lxor {kx nx : Nat} (cx : Cx Z p s m meth c R kx nx own nm code maxL ret) {x y : Int64} (d : Dc code pc .lxor 1 pc') (H : G p l e R s m args below meth c Z.heap.size Q h k n pc' Ls (.long (x ^^^ y) :: st)) : G p l e R s m args below meth c Z.heap.size Q h k n pc Ls (.long y :: .long x :: st) := by
  obtain ⟨hx, hZ, hown, rfl, hml, hret, hnm, -⟩ := cx
  obtain ⟨d, rfl⟩ := d
  intro T locs cells slots X N eT hk hn
  obtain ⟨s₂, o, st2, r⟩ := H T locs cells slots X N eT hk hn
  exact ⟨s₂, o, Jvm.Free.XS.lxor X.here hx rfl d rfl st2, r⟩
theorem g_ishl {kx nx : Nat} (cx : Cx Z p s m meth c R kx nx own nm code maxL ret) {x : Int32} {y : Int32} (d : Dc code pc .ishl 1 pc') (H : G p l e R s m args below meth c Z.heap.size Q h k n pc' Ls (.int (x <<< (y &&& 31)) :: st)) : G p l e R s m args below meth c Z.heap.size Q h k n pc Ls (.int y :: .int x :: st) := by
  obtain ⟨hx, hZ, hown, rfl, hml, hret, hnm, -⟩ := cx
  obtain ⟨d, rfl⟩ := d
  intro T locs cells slots X N eT hk hn
  obtain ⟨s₂, o, st2, r⟩ := H T locs cells slots X N eT hk hn
  exact ⟨s₂, o, Jvm.Free.XS.ishl X.here hx rfl d rfl st2, r⟩
theorem g_ishr {kx nx : Nat} (cx : Cx Z p s m meth c R kx nx own nm code maxL ret) {x : Int32} {y : Int32} (d : Dc code pc .ishr 1 pc') (H : G p l e R s m args below meth c Z.heap.size Q h k n pc' Ls (.int (x >>> (y &&& 31)) :: st)) : G p l e R s m args below meth c Z.heap.size Q h k n pc Ls (.int y :: .int x :: st) := by
  obtain ⟨hx, hZ, hown, rfl, hml, hret, hnm, -⟩ := cx
  obtain ⟨d, rfl⟩ := d
  intro T locs cells slots X N eT hk hn
  obtain ⟨s₂, o, st2, r⟩ := H T locs cells slots X N eT hk hn
  exact ⟨s₂, o, Jvm.Free.XS.ishr X.here hx rfl d rfl st2, r⟩
theorem g_iushr {kx nx : Nat} (cx : Cx Z p s m meth c R kx nx own nm code maxL ret) {x : Int32} {y : Int32} (d : Dc code pc .iushr 1 pc') (H : G p l e R s m args below meth c Z.heap.size Q h k n pc' Ls (.int ((x.toUInt32 >>> (y &&& 31).toUInt32).toInt32) :: st)) : G p l e R s m args below meth c Z.heap.size Q h k n pc Ls (.int y :: .int x :: st) := by
  obtain ⟨hx, hZ, hown, rfl, hml, hret, hnm, -⟩ := cx
  obtain ⟨d, rfl⟩ := d
  intro T locs cells slots X N eT hk hn
  obtain ⟨s₂, o, st2, r⟩ := H T locs cells slots X N eT hk hn
  exact ⟨s₂, o, Jvm.Free.XS.iushr X.here hx rfl d rfl st2, r⟩
theorem g_lshl {kx nx : Nat} (cx : Cx Z p s m meth c R kx nx own nm code maxL ret) {x : Int64} {y : Int32} (d : Dc code pc .lshl 1 pc') (H : G p l e R s m args below meth c Z.heap.size Q h k n pc' Ls (.long (x <<< (y &&& 0x3f).toInt64) :: st)) : G p l e R s m args below meth c Z.heap.size Q h k n pc Ls (.int y :: .long x :: st) := by
  obtain ⟨hx, hZ, hown, rfl, hml, hret, hnm, -⟩ := cx
  obtain ⟨d, rfl⟩ := d
  intro T locs cells slots X N eT hk hn
  obtain ⟨s₂, o, st2, r⟩ := H T locs cells slots X N eT hk hn
  exact ⟨s₂, o, Jvm.Free.XS.lshl X.here hx rfl d rfl st2, r⟩
theorem g_lshr {kx nx : Nat} (cx : Cx Z p s m meth c R kx nx own nm code maxL ret) {x : Int64} {y : Int32} (d : Dc code pc .lshr 1 pc') (H : G p l e R s m args below meth c Z.heap.size Q h k n pc' Ls (.long (x >>> (y &&& 0x3f).toInt64) :: st)) : G p l e R s m args below meth c Z.heap.size Q h k n pc Ls (.int y :: .long x :: st) := by
  obtain ⟨hx, hZ, hown, rfl, hml, hret, hnm, -⟩ := cx
  obtain ⟨d, rfl⟩ := d
  intro T locs cells slots X N eT hk hn
  obtain ⟨s₂, o, st2, r⟩ := H T locs cells slots X N eT hk hn
  exact ⟨s₂, o, Jvm.Free.XS.lshr X.here hx rfl d rfl st2, r⟩
theorem g_lushr {kx nx : Nat} (cx : Cx Z p s m meth c R kx nx own nm code maxL ret) {x : Int64} {y : Int32} (d : Dc code pc .lushr 1 pc') (H : G p l e R s m args below meth c Z.heap.size Q h k n pc' Ls (.long ((x.toUInt64 >>> (y &&& 0x3f).toInt64.toUInt64).toInt64) :: st)) : G p l e R s m args below meth c Z.heap.size Q h k n pc Ls (.int y :: .long x :: st) := by
  obtain ⟨hx, hZ, hown, rfl, hml, hret, hnm, -⟩ := cx
  obtain ⟨d, rfl⟩ := d
  intro T locs cells slots X N eT hk hn
  obtain ⟨s₂, o, st2, r⟩ := H T locs cells slots X N eT hk hn
  exact ⟨s₂, o, Jvm.Free.XS.lushr X.here hx rfl d rfl st2, r⟩
theorem g_ineg {kx nx : Nat} (cx : Cx Z p s m meth c R kx nx own nm code maxL ret) {x : Int32} (d : Dc code pc .ineg 1 pc') (H : G p l e R s m args below meth c Z.heap.size Q h k n pc' Ls (.int (-x) :: st)) : G p l e R s m args below meth c Z.heap.size Q h k n pc Ls (.int x :: st) := by
  obtain ⟨hx, hZ, hown, rfl, hml, hret, hnm, -⟩ := cx
  obtain ⟨d, rfl⟩ := d
  intro T locs cells slots X N eT hk hn
  obtain ⟨s₂, o, st2, r⟩ := H T locs cells slots X N eT hk hn
  exact ⟨s₂, o, Jvm.Free.XS.ineg X.here hx rfl d rfl st2, r⟩
theorem g_lneg {kx nx : Nat} (cx : Cx Z p s m meth c R kx nx own nm code maxL ret) {x : Int64} (d : Dc code pc .lneg 1 pc') (H : G p l e R s m args below meth c Z.heap.size Q h k n pc' Ls (.long (-x) :: st)) : G p l e R s m args below meth c Z.heap.size Q h k n pc Ls (.long x :: st) := by
  obtain ⟨hx, hZ, hown, rfl, hml, hret, hnm, -⟩ := cx
  obtain ⟨d, rfl⟩ := d
  intro T locs cells slots X N eT hk hn
  obtain ⟨s₂, o, st2, r⟩ := H T locs cells slots X N eT hk hn
  exact ⟨s₂, o, Jvm.Free.XS.lneg X.here hx rfl d rfl st2, r⟩
theorem g_i2l {kx nx : Nat} (cx : Cx Z p s m meth c R kx nx own nm code maxL ret) {x : Int32} (d : Dc code pc .i2l 1 pc') (H : G p l e R s m args below meth c Z.heap.size Q h k n pc' Ls (.long (x.toInt64) :: st)) : G p l e R s m args below meth c Z.heap.size Q h k n pc Ls (.int x :: st) := by
  obtain ⟨hx, hZ, hown, rfl, hml, hret, hnm, -⟩ := cx
  obtain ⟨d, rfl⟩ := d
  intro T locs cells slots X N eT hk hn
  obtain ⟨s₂, o, st2, r⟩ := H T locs cells slots X N eT hk hn
  exact ⟨s₂, o, Jvm.Free.XS.i2l X.here hx rfl d rfl st2, r⟩
theorem g_l2i {kx nx : Nat} (cx : Cx Z p s m meth c R kx nx own nm code maxL ret) {x : Int64} (d : Dc code pc .l2i 1 pc') (H : G p l e R s m args below meth c Z.heap.size Q h k n pc' Ls (.int (x.toInt32) :: st)) : G p l e R s m args below meth c Z.heap.size Q h k n pc Ls (.long x :: st) := by
  obtain ⟨hx, hZ, hown, rfl, hml, hret, hnm, -⟩ := cx
  obtain ⟨d, rfl⟩ := d
  intro T locs cells slots X N eT hk hn
  obtain ⟨s₂, o, st2, r⟩ := H T locs cells slots X N eT hk hn
  exact ⟨s₂, o, Jvm.Free.XS.l2i X.here hx rfl d rfl st2, r⟩
theorem g_i2b {kx nx : Nat} (cx : Cx Z p s m meth c R kx nx own nm code maxL ret) {x : Int32} (d : Dc code pc .i2b 1 pc') (H : G p l e R s m args below meth c Z.heap.size Q h k n pc' Ls (.int (x.toInt8.toInt32) :: st)) : G p l e R s m args below meth c Z.heap.size Q h k n pc Ls (.int x :: st) := by
  obtain ⟨hx, hZ, hown, rfl, hml, hret, hnm, -⟩ := cx
  obtain ⟨d, rfl⟩ := d
  intro T locs cells slots X N eT hk hn
  obtain ⟨s₂, o, st2, r⟩ := H T locs cells slots X N eT hk hn
  exact ⟨s₂, o, Jvm.Free.XS.i2b X.here hx rfl d rfl st2, r⟩
theorem g_i2s {kx nx : Nat} (cx : Cx Z p s m meth c R kx nx own nm code maxL ret) {x : Int32} (d : Dc code pc .i2s 1 pc') (H : G p l e R s m args below meth c Z.heap.size Q h k n pc' Ls (.int (x.toInt16.toInt32) :: st)) : G p l e R s m args below meth c Z.heap.size Q h k n pc Ls (.int x :: st) := by
  obtain ⟨hx, hZ, hown, rfl, hml, hret, hnm, -⟩ := cx
  obtain ⟨d, rfl⟩ := d
  intro T locs cells slots X N eT hk hn
  obtain ⟨s₂, o, st2, r⟩ := H T locs cells slots X N eT hk hn
  exact ⟨s₂, o, Jvm.Free.XS.i2s X.here hx rfl d rfl st2, r⟩
theorem g_i2c {kx nx : Nat} (cx : Cx Z p s m meth c R kx nx own nm code maxL ret) {x : Int32} (d : Dc code pc .i2c 1 pc') (H : G p l e R s m args below meth c Z.heap.size Q h k n pc' Ls (.int (x.toUInt32.toUInt16.toUInt32.toInt32) :: st)) : G p l e R s m args below meth c Z.heap.size Q h k n pc Ls (.int x :: st) := by
  obtain ⟨hx, hZ, hown, rfl, hml, hret, hnm, -⟩ := cx
  obtain ⟨d, rfl⟩ := d
  intro T locs cells slots X N eT hk hn
  obtain ⟨s₂, o, st2, r⟩ := H T locs cells slots X N eT hk hn
  exact ⟨s₂, o, Jvm.Free.XS.i2c X.here hx rfl d rfl st2, r⟩
theorem g_idiv {kx nx : Nat} (cx : Cx Z p s m meth c R kx nx own nm code maxL ret) {x y : Int32} (d : Dc code pc .idiv 1 pc') (hy : y ≠ 0) (H : G p l e R s m args below meth c Z.heap.size Q h k n pc' Ls (.int (x / y) :: st)) : G p l e R s m args below meth c Z.heap.size Q h k n pc Ls (.int y :: .int x :: st) := by
  obtain ⟨hx, hZ, hown, rfl, hml, hret, hnm, -⟩ := cx
  obtain ⟨d, rfl⟩ := d
  intro T locs cells slots X N eT hk hn
  obtain ⟨s₂, o, st2, r⟩ := H T locs cells slots X N eT hk hn
  exact ⟨s₂, o, Jvm.Free.XS.idiv X.here hx rfl d rfl hy st2, r⟩
theorem g_ldiv {kx nx : Nat} (cx : Cx Z p s m meth c R kx nx own nm code maxL ret) {x y : Int64} (d : Dc code pc .ldiv 1 pc') (hy : y ≠ 0) (H : G p l e R s m args below meth c Z.heap.size Q h k n pc' Ls (.long (x / y) :: st)) : G p l e R s m args below meth c Z.heap.size Q h k n pc Ls (.long y :: .long x :: st) := by
  obtain ⟨hx, hZ, hown, rfl, hml, hret, hnm, -⟩ := cx
  obtain ⟨d, rfl⟩ := d
  intro T locs cells slots X N eT hk hn
  obtain ⟨s₂, o, st2, r⟩ := H T locs cells slots X N eT hk hn
  exact ⟨s₂, o, Jvm.Free.XS.ldiv X.here hx rfl d rfl hy st2, r⟩
theorem g_irem {kx nx : Nat} (cx : Cx Z p s m meth c R kx nx own nm code maxL ret) {x y : Int32} (d : Dc code pc .irem 1 pc') (hy : y ≠ 0) (H : G p l e R s m args below meth c Z.heap.size Q h k n pc' Ls (.int (x % y) :: st)) : G p l e R s m args below meth c Z.heap.size Q h k n pc Ls (.int y :: .int x :: st) := by
  obtain ⟨hx, hZ, hown, rfl, hml, hret, hnm, -⟩ := cx
  obtain ⟨d, rfl⟩ := d
  intro T locs cells slots X N eT hk hn
  obtain ⟨s₂, o, st2, r⟩ := H T locs cells slots X N eT hk hn
  exact ⟨s₂, o, Jvm.Free.XS.irem X.here hx rfl d rfl hy (by rw [irem_eq_mod]; exact st2), r⟩
theorem g_lrem {kx nx : Nat} (cx : Cx Z p s m meth c R kx nx own nm code maxL ret) {x y : Int64} (d : Dc code pc .lrem 1 pc') (hy : y ≠ 0) (H : G p l e R s m args below meth c Z.heap.size Q h k n pc' Ls (.long (x % y) :: st)) : G p l e R s m args below meth c Z.heap.size Q h k n pc Ls (.long y :: .long x :: st) := by
  obtain ⟨hx, hZ, hown, rfl, hml, hret, hnm, -⟩ := cx
  obtain ⟨d, rfl⟩ := d
  intro T locs cells slots X N eT hk hn
  obtain ⟨s₂, o, st2, r⟩ := H T locs cells slots X N eT hk hn
  exact ⟨s₂, o, Jvm.Free.XS.lrem X.here hx rfl d rfl hy (by rw [lrem_mod]; exact st2), r⟩
theorem g_iinc {kx nx : Nat} (cx : Cx Z p s m meth c R kx nx own nm code maxL ret) {i : Nat} {z : Int} {x v : Int32} {Ls' : Array Slot} (d : Dc code pc (.iinc i z) 3 pc') (hl : Ls[i]? = some (.val (.int x))) (hv : Int32.ofInt z = v) (hl' : storeLocals Ls i (.int (x + v)) = some Ls') (H : G p l e R s m args below meth c Z.heap.size Q h k n pc' Ls' st) : G p l e R s m args below meth c Z.heap.size Q h k n pc Ls st := by
  obtain ⟨hx, hZ, hown, rfl, hml, hret, hnm, -⟩ := cx
  obtain ⟨d, rfl⟩ := d
  intro T locs cells slots X N eT hk hn
  obtain ⟨s₂, o, st2, r⟩ := H T locs cells slots X N eT hk hn
  exact ⟨s₂, o, Jvm.Free.XS.iinc X.here hx rfl d hl (by rw [hv]; exact hl') st2, r⟩
theorem g_dup {kx nx : Nat} (cx : Cx Z p s m meth c R kx nx own nm code maxL ret) {v : Value} (d : Dc code pc .dup 1 pc') (hc : v.category = 1) (H : G p l e R s m args below meth c Z.heap.size Q h k n pc' Ls (v :: v :: st)) : G p l e R s m args below meth c Z.heap.size Q h k n pc Ls (v :: st) := by
  obtain ⟨hx, hZ, hown, rfl, hml, hret, hnm, -⟩ := cx
  obtain ⟨d, rfl⟩ := d
  intro T locs cells slots X N eT hk hn
  obtain ⟨s₂, o, st2, r⟩ := H T locs cells slots X N eT hk hn
  exact ⟨s₂, o, Jvm.Free.XS.dup X.here hx rfl d rfl hc st2, r⟩
theorem g_pop {kx nx : Nat} (cx : Cx Z p s m meth c R kx nx own nm code maxL ret) {v : Value} (d : Dc code pc .pop 1 pc') (hc : v.category = 1) (H : G p l e R s m args below meth c Z.heap.size Q h k n pc' Ls st) : G p l e R s m args below meth c Z.heap.size Q h k n pc Ls (v :: st) := by
  obtain ⟨hx, hZ, hown, rfl, hml, hret, hnm, -⟩ := cx
  obtain ⟨d, rfl⟩ := d
  intro T locs cells slots X N eT hk hn
  obtain ⟨s₂, o, st2, r⟩ := H T locs cells slots X N eT hk hn
  exact ⟨s₂, o, Jvm.Free.XS.pop X.here hx rfl d rfl hc st2, r⟩
theorem g_dup_x1 {kx nx : Nat} (cx : Cx Z p s m meth c R kx nx own nm code maxL ret) {v w : Value} (d : Dc code pc .dup_x1 1 pc') (hc : v.category = 1) (hc2 : w.category = 1) (H : G p l e R s m args below meth c Z.heap.size Q h k n pc' Ls (v :: w :: v :: st)) : G p l e R s m args below meth c Z.heap.size Q h k n pc Ls (v :: w :: st) := by
  obtain ⟨hx, hZ, hown, rfl, hml, hret, hnm, -⟩ := cx
  obtain ⟨d, rfl⟩ := d
  intro T locs cells slots X N eT hk hn
  obtain ⟨s₂, o, st2, r⟩ := H T locs cells slots X N eT hk hn
  exact ⟨s₂, o, Jvm.Free.XS.dupX1 X.here hx rfl d rfl hc hc2 st2, r⟩
theorem g_dup2 {kx nx : Nat} (cx : Cx Z p s m meth c R kx nx own nm code maxL ret) {v w : Value} (d : Dc code pc .dup2 1 pc') (hc : v.category = 1) (hc2 : w.category = 1) (H : G p l e R s m args below meth c Z.heap.size Q h k n pc' Ls (v :: w :: v :: w :: st)) : G p l e R s m args below meth c Z.heap.size Q h k n pc Ls (v :: w :: st) := by
  obtain ⟨hx, hZ, hown, rfl, hml, hret, hnm, -⟩ := cx
  obtain ⟨d, rfl⟩ := d
  intro T locs cells slots X N eT hk hn
  obtain ⟨s₂, o, st2, r⟩ := H T locs cells slots X N eT hk hn
  exact ⟨s₂, o, Jvm.Free.XT.dup2 X.here hx rfl d rfl hc hc2 st2, r⟩
theorem g_dup2L {kx nx : Nat} (cx : Cx Z p s m meth c R kx nx own nm code maxL ret) {v : Int64} (d : Dc code pc .dup2 1 pc') (H : G p l e R s m args below meth c Z.heap.size Q h k n pc' Ls (.long v :: .long v :: st)) : G p l e R s m args below meth c Z.heap.size Q h k n pc Ls (.long v :: st) := by
  obtain ⟨hx, hZ, hown, rfl, hml, hret, hnm, -⟩ := cx
  obtain ⟨d, rfl⟩ := d
  intro T locs cells slots X N eT hk hn
  obtain ⟨s₂, o, st2, r⟩ := H T locs cells slots X N eT hk hn
  exact ⟨s₂, o, Jvm.Free.XT.dup2L X.here hx rfl d rfl st2, r⟩
theorem g_goto {kx nx : Nat} (cx : Cx Z p s m meth c R kx nx own nm code maxL ret) (d : Bi code pc Instr.goto pcY pcN) (H : G p l e R s m args below meth c Z.heap.size Q h k n pcY Ls st) : G p l e R s m args below meth c Z.heap.size Q h k n pc Ls st := by
  obtain ⟨hx, hZ, hown, rfl, hml, hret, hnm, -⟩ := cx
  obtain ⟨o', d, ho, rfl, rfl⟩ := d
  intro T locs cells slots X N eT hk hn
  obtain ⟨s₂, o, st2, r⟩ := H T locs cells slots X N eT hk hn
  exact ⟨s₂, o, Jvm.Free.XS.goto X.here hx rfl (pc0 := pc) rfl d ho rfl st2, r⟩
theorem g_ifB {kx nx : Nat} (cx : Cx Z p s m meth c R kx nx own nm code maxL ret) {cd : ClassFile.Cond} {x : Int32} (d : Bi code pc (Instr.ifCond cd) pcY pcN) (HY : if_icmp.holds cd x 0 = true → G p l e R s m args below meth c Z.heap.size Q h k n pcY Ls st) (HN : if_icmp.holds cd x 0 = false → G p l e R s m args below meth c Z.heap.size Q h k n pcN Ls st) : G p l e R s m args below meth c Z.heap.size Q h k n pc Ls (.int x :: st) := by
  obtain ⟨hx, hZ, hown, rfl, hml, hret, hnm, -⟩ := cx
  obtain ⟨o', d, ho, rfl, rfl⟩ := d
  intro T locs cells slots X N eT hk hn
  cases hc : if_icmp.holds cd x 0
  · obtain ⟨s₂, o, st2, r⟩ := HN hc T locs cells slots X N eT hk hn
    exact ⟨s₂, o, Jvm.Free.XS.ifNo X.here hx rfl d rfl ((if0 _ _).trans hc) st2, r⟩
  · obtain ⟨s₂, o, st2, r⟩ := HY hc T locs cells slots X N eT hk hn
    exact ⟨s₂, o, Jvm.Free.XS.ifYes X.here hx rfl (pc0 := pc) rfl d rfl ((if0 _ _).trans hc) ho rfl st2, r⟩
theorem g_icmpB {kx nx : Nat} (cx : Cx Z p s m meth c R kx nx own nm code maxL ret) {cd : ClassFile.Cond} {x y : Int32} (d : Bi code pc (Instr.if_icmp cd) pcY pcN) (HY : if_icmp.holds cd x y = true → G p l e R s m args below meth c Z.heap.size Q h k n pcY Ls st) (HN : if_icmp.holds cd x y = false → G p l e R s m args below meth c Z.heap.size Q h k n pcN Ls st) : G p l e R s m args below meth c Z.heap.size Q h k n pc Ls (.int y :: .int x :: st) := by
  obtain ⟨hx, hZ, hown, rfl, hml, hret, hnm, -⟩ := cx
  obtain ⟨o', d, ho, rfl, rfl⟩ := d
  intro T locs cells slots X N eT hk hn
  cases hc : if_icmp.holds cd x y
  · obtain ⟨s₂, o, st2, r⟩ := HN hc T locs cells slots X N eT hk hn
    exact ⟨s₂, o, Jvm.Free.XS.icmpNo X.here hx rfl d rfl hc st2, r⟩
  · obtain ⟨s₂, o, st2, r⟩ := HY hc T locs cells slots X N eT hk hn
    exact ⟨s₂, o, Jvm.Free.XS.icmpYes X.here hx rfl (pc0 := pc) rfl d rfl hc ho rfl st2, r⟩
theorem h_eq {x y : Int32} : if_icmp.holds .eq x y = decide (x = y) := by by_cases h : x = y <;> simp [if_icmp.holds, h]
theorem h_ne {x y : Int32} : if_icmp.holds .ne x y = !decide (x = y) := by by_cases h : x = y <;> simp [if_icmp.holds, h]
theorem h_lt {x y : Int32} : if_icmp.holds .lt x y = decide (x < y) := by by_cases h : x < y <;> simp [if_icmp.holds, h]
theorem h_ge {x y : Int32} : if_icmp.holds .ge x y = !decide (x < y) := by by_cases h : x < y <;> simp [if_icmp.holds, h, Int32.not_le.mpr, Int32.not_lt.mp]
theorem h_gt {x y : Int32} : if_icmp.holds .gt x y = decide (y < x) := by by_cases h : y < x <;> simp [if_icmp.holds, h]
theorem h_le {x y : Int32} : if_icmp.holds .le x y = !decide (y < x) := by by_cases h : y < x <;> simp [if_icmp.holds, h, Int32.not_le.mpr, Int32.not_lt.mp]
theorem g_if_eq {kx nx : Nat} (cx : Cx Z p s m meth c R kx nx own nm code maxL ret) {x : Int32} (d : Bi code pc (Instr.ifCond .eq) pcY pcN) (HY : x = 0 → G p l e R s m args below meth c Z.heap.size Q h k n pcY Ls st) (HN : ¬ x = 0 → G p l e R s m args below meth c Z.heap.size Q h k n pcN Ls st) : G p l e R s m args below meth c Z.heap.size Q h k n pc Ls (.int x :: st) :=
  g_ifB cx d (fun q => HY (by rw [h_eq] at q; simpa using q)) (fun q => HN (by rw [h_eq] at q; simpa using q))
theorem g_icmp_eq {kx nx : Nat} (cx : Cx Z p s m meth c R kx nx own nm code maxL ret) {x y : Int32} (d : Bi code pc (Instr.if_icmp .eq) pcY pcN) (HY : x = y → G p l e R s m args below meth c Z.heap.size Q h k n pcY Ls st) (HN : ¬ x = y → G p l e R s m args below meth c Z.heap.size Q h k n pcN Ls st) : G p l e R s m args below meth c Z.heap.size Q h k n pc Ls (.int y :: .int x :: st) :=
  g_icmpB cx d (fun q => HY (by rw [h_eq] at q; simpa using q)) (fun q => HN (by rw [h_eq] at q; simpa using q))
theorem g_if_ne {kx nx : Nat} (cx : Cx Z p s m meth c R kx nx own nm code maxL ret) {x : Int32} (d : Bi code pc (Instr.ifCond .ne) pcY pcN) (HY : ¬ x = 0 → G p l e R s m args below meth c Z.heap.size Q h k n pcY Ls st) (HN : x = 0 → G p l e R s m args below meth c Z.heap.size Q h k n pcN Ls st) : G p l e R s m args below meth c Z.heap.size Q h k n pc Ls (.int x :: st) :=
  g_ifB cx d (fun q => HY (by rw [h_ne] at q; simpa using q)) (fun q => HN (by rw [h_ne] at q; simpa using q))
theorem g_icmp_ne {kx nx : Nat} (cx : Cx Z p s m meth c R kx nx own nm code maxL ret) {x y : Int32} (d : Bi code pc (Instr.if_icmp .ne) pcY pcN) (HY : ¬ x = y → G p l e R s m args below meth c Z.heap.size Q h k n pcY Ls st) (HN : x = y → G p l e R s m args below meth c Z.heap.size Q h k n pcN Ls st) : G p l e R s m args below meth c Z.heap.size Q h k n pc Ls (.int y :: .int x :: st) :=
  g_icmpB cx d (fun q => HY (by rw [h_ne] at q; simpa using q)) (fun q => HN (by rw [h_ne] at q; simpa using q))
theorem g_if_lt {kx nx : Nat} (cx : Cx Z p s m meth c R kx nx own nm code maxL ret) {x : Int32} (d : Bi code pc (Instr.ifCond .lt) pcY pcN) (HY : x < 0 → G p l e R s m args below meth c Z.heap.size Q h k n pcY Ls st) (HN : ¬ x < 0 → G p l e R s m args below meth c Z.heap.size Q h k n pcN Ls st) : G p l e R s m args below meth c Z.heap.size Q h k n pc Ls (.int x :: st) :=
  g_ifB cx d (fun q => HY (by rw [h_lt] at q; simpa using q)) (fun q => HN (by rw [h_lt] at q; simpa using q))
theorem g_icmp_lt {kx nx : Nat} (cx : Cx Z p s m meth c R kx nx own nm code maxL ret) {x y : Int32} (d : Bi code pc (Instr.if_icmp .lt) pcY pcN) (HY : x < y → G p l e R s m args below meth c Z.heap.size Q h k n pcY Ls st) (HN : ¬ x < y → G p l e R s m args below meth c Z.heap.size Q h k n pcN Ls st) : G p l e R s m args below meth c Z.heap.size Q h k n pc Ls (.int y :: .int x :: st) :=
  g_icmpB cx d (fun q => HY (by rw [h_lt] at q; simpa using q)) (fun q => HN (by rw [h_lt] at q; simpa using q))
theorem g_if_ge {kx nx : Nat} (cx : Cx Z p s m meth c R kx nx own nm code maxL ret) {x : Int32} (d : Bi code pc (Instr.ifCond .ge) pcY pcN) (HY : ¬ x < 0 → G p l e R s m args below meth c Z.heap.size Q h k n pcY Ls st) (HN : x < 0 → G p l e R s m args below meth c Z.heap.size Q h k n pcN Ls st) : G p l e R s m args below meth c Z.heap.size Q h k n pc Ls (.int x :: st) :=
  g_ifB cx d (fun q => HY (by rw [h_ge] at q; simpa using q)) (fun q => HN (by rw [h_ge] at q; simpa using q))
theorem g_icmp_ge {kx nx : Nat} (cx : Cx Z p s m meth c R kx nx own nm code maxL ret) {x y : Int32} (d : Bi code pc (Instr.if_icmp .ge) pcY pcN) (HY : ¬ x < y → G p l e R s m args below meth c Z.heap.size Q h k n pcY Ls st) (HN : x < y → G p l e R s m args below meth c Z.heap.size Q h k n pcN Ls st) : G p l e R s m args below meth c Z.heap.size Q h k n pc Ls (.int y :: .int x :: st) :=
  g_icmpB cx d (fun q => HY (by rw [h_ge] at q; simpa using q)) (fun q => HN (by rw [h_ge] at q; simpa using q))
theorem g_if_gt {kx nx : Nat} (cx : Cx Z p s m meth c R kx nx own nm code maxL ret) {x : Int32} (d : Bi code pc (Instr.ifCond .gt) pcY pcN) (HY : 0 < x → G p l e R s m args below meth c Z.heap.size Q h k n pcY Ls st) (HN : ¬ 0 < x → G p l e R s m args below meth c Z.heap.size Q h k n pcN Ls st) : G p l e R s m args below meth c Z.heap.size Q h k n pc Ls (.int x :: st) :=
  g_ifB cx d (fun q => HY (by rw [h_gt] at q; simpa using q)) (fun q => HN (by rw [h_gt] at q; simpa using q))
theorem g_icmp_gt {kx nx : Nat} (cx : Cx Z p s m meth c R kx nx own nm code maxL ret) {x y : Int32} (d : Bi code pc (Instr.if_icmp .gt) pcY pcN) (HY : y < x → G p l e R s m args below meth c Z.heap.size Q h k n pcY Ls st) (HN : ¬ y < x → G p l e R s m args below meth c Z.heap.size Q h k n pcN Ls st) : G p l e R s m args below meth c Z.heap.size Q h k n pc Ls (.int y :: .int x :: st) :=
  g_icmpB cx d (fun q => HY (by rw [h_gt] at q; simpa using q)) (fun q => HN (by rw [h_gt] at q; simpa using q))
theorem g_if_le {kx nx : Nat} (cx : Cx Z p s m meth c R kx nx own nm code maxL ret) {x : Int32} (d : Bi code pc (Instr.ifCond .le) pcY pcN) (HY : ¬ 0 < x → G p l e R s m args below meth c Z.heap.size Q h k n pcY Ls st) (HN : 0 < x → G p l e R s m args below meth c Z.heap.size Q h k n pcN Ls st) : G p l e R s m args below meth c Z.heap.size Q h k n pc Ls (.int x :: st) :=
  g_ifB cx d (fun q => HY (by rw [h_le] at q; simpa using q)) (fun q => HN (by rw [h_le] at q; simpa using q))
theorem g_icmp_le {kx nx : Nat} (cx : Cx Z p s m meth c R kx nx own nm code maxL ret) {x y : Int32} (d : Bi code pc (Instr.if_icmp .le) pcY pcN) (HY : ¬ y < x → G p l e R s m args below meth c Z.heap.size Q h k n pcY Ls st) (HN : y < x → G p l e R s m args below meth c Z.heap.size Q h k n pcN Ls st) : G p l e R s m args below meth c Z.heap.size Q h k n pc Ls (.int y :: .int x :: st) :=
  g_icmpB cx d (fun q => HY (by rw [h_le] at q; simpa using q)) (fun q => HN (by rw [h_le] at q; simpa using q))
theorem g_lcmp {kx nx : Nat} (cx : Cx Z p s m meth c R kx nx own nm code maxL ret) {x y : Int64} (d : Dc code pc .lcmp 1 pc') (H : G p l e R s m args below meth c Z.heap.size Q h k n pc' Ls (.int (lcmpW x y) :: st)) : G p l e R s m args below meth c Z.heap.size Q h k n pc Ls (.long y :: .long x :: st) := by
  obtain ⟨hx, hZ, hown, rfl, hml, hret, hnm, -⟩ := cx
  obtain ⟨d, rfl⟩ := d
  intro T locs cells slots X N eT hk hn
  obtain ⟨s₂, o, st2, r⟩ := H T locs cells slots X N eT hk hn
  exact ⟨s₂, o, Jvm.Free.XS.lcmp X.here hx rfl d rfl st2, r⟩
theorem g_lif_eq {kx nx : Nat} (cx : Cx Z p s m meth c R kx nx own nm code maxL ret) {x y : Int64} (d0 : Dc code pc .lcmp 1 pc') (d : Bi code pc' (Instr.ifCond .eq) pcY pcN) (HY : x = y → G p l e R s m args below meth c Z.heap.size Q h k n pcY Ls st) (HN : ¬ x = y → G p l e R s m args below meth c Z.heap.size Q h k n pcN Ls st) : G p l e R s m args below meth c Z.heap.size Q h k n pc Ls (.long y :: .long x :: st) :=
  g_lcmp cx d0 (g_if_eq cx d (fun q => HY ((lw_eq x y).mp q)) (fun q => HN (fun z => q ((lw_eq x y).mpr z))))
theorem g_lif_ne {kx nx : Nat} (cx : Cx Z p s m meth c R kx nx own nm code maxL ret) {x y : Int64} (d0 : Dc code pc .lcmp 1 pc') (d : Bi code pc' (Instr.ifCond .ne) pcY pcN) (HY : ¬ x = y → G p l e R s m args below meth c Z.heap.size Q h k n pcY Ls st) (HN : x = y → G p l e R s m args below meth c Z.heap.size Q h k n pcN Ls st) : G p l e R s m args below meth c Z.heap.size Q h k n pc Ls (.long y :: .long x :: st) :=
  g_lcmp cx d0 (g_if_ne cx d (fun q => HY (fun z => q ((lw_eq x y).mpr z))) (fun q => HN ((lw_eq x y).mp q)))
theorem g_lif_lt {kx nx : Nat} (cx : Cx Z p s m meth c R kx nx own nm code maxL ret) {x y : Int64} (d0 : Dc code pc .lcmp 1 pc') (d : Bi code pc' (Instr.ifCond .lt) pcY pcN) (HY : x < y → G p l e R s m args below meth c Z.heap.size Q h k n pcY Ls st) (HN : ¬ x < y → G p l e R s m args below meth c Z.heap.size Q h k n pcN Ls st) : G p l e R s m args below meth c Z.heap.size Q h k n pc Ls (.long y :: .long x :: st) :=
  g_lcmp cx d0 (g_if_lt cx d (fun q => HY ((lw_lt x y).mp q)) (fun q => HN (fun z => q ((lw_lt x y).mpr z))))
theorem g_lif_ge {kx nx : Nat} (cx : Cx Z p s m meth c R kx nx own nm code maxL ret) {x y : Int64} (d0 : Dc code pc .lcmp 1 pc') (d : Bi code pc' (Instr.ifCond .ge) pcY pcN) (HY : ¬ x < y → G p l e R s m args below meth c Z.heap.size Q h k n pcY Ls st) (HN : x < y → G p l e R s m args below meth c Z.heap.size Q h k n pcN Ls st) : G p l e R s m args below meth c Z.heap.size Q h k n pc Ls (.long y :: .long x :: st) :=
  g_lcmp cx d0 (g_if_ge cx d (fun q => HY (fun z => q ((lw_lt x y).mpr z))) (fun q => HN ((lw_lt x y).mp q)))
theorem g_lif_gt {kx nx : Nat} (cx : Cx Z p s m meth c R kx nx own nm code maxL ret) {x y : Int64} (d0 : Dc code pc .lcmp 1 pc') (d : Bi code pc' (Instr.ifCond .gt) pcY pcN) (HY : y < x → G p l e R s m args below meth c Z.heap.size Q h k n pcY Ls st) (HN : ¬ y < x → G p l e R s m args below meth c Z.heap.size Q h k n pcN Ls st) : G p l e R s m args below meth c Z.heap.size Q h k n pc Ls (.long y :: .long x :: st) :=
  g_lcmp cx d0 (g_if_gt cx d (fun q => HY ((lw_gt x y).mp q)) (fun q => HN (fun z => q ((lw_gt x y).mpr z))))
theorem g_lif_le {kx nx : Nat} (cx : Cx Z p s m meth c R kx nx own nm code maxL ret) {x y : Int64} (d0 : Dc code pc .lcmp 1 pc') (d : Bi code pc' (Instr.ifCond .le) pcY pcN) (HY : ¬ y < x → G p l e R s m args below meth c Z.heap.size Q h k n pcY Ls st) (HN : y < x → G p l e R s m args below meth c Z.heap.size Q h k n pcN Ls st) : G p l e R s m args below meth c Z.heap.size Q h k n pc Ls (.long y :: .long x :: st) :=
  g_lcmp cx d0 (g_if_le cx d (fun q => HY (fun z => q ((lw_gt x y).mpr z))) (fun q => HN ((lw_gt x y).mp q)))
theorem g_acmp {kx nx : Nat} (cx : Cx Z p s m meth c R kx nx own nm code maxL ret) {cd : ACond} {x y : Value} (h1 : x.isRef = true) (h2 : y.isRef = true) (d : Bi code pc (Instr.if_acmp cd) pcY pcN) (HY : x = y → G p l e R s m args below meth c Z.heap.size Q h k n (if acV cd true = true then pcY else pcN) Ls st) (HN : ¬ x = y → G p l e R s m args below meth c Z.heap.size Q h k n (if acV cd false = true then pcY else pcN) Ls st) : G p l e R s m args below meth c Z.heap.size Q h k n pc Ls (y :: x :: st) := by
  obtain ⟨hx, hZ, hown, rfl, hml, hret, hnm, -⟩ := cx
  obtain ⟨o', d, ho, rfl, rfl⟩ := d
  intro T locs cells slots X N eT hk hn
  by_cases hc : x = y
  · obtain ⟨s₂, o, st2, r⟩ := HY hc T locs cells slots X N eT hk hn
    exact ⟨s₂, o, Jvm.RoadKit.acmp (g := mkF m pc Ls (y :: x :: st)) X hx rfl h1 h2 (pc0 := pc) (same := true) rfl d rfl (decide_eq_true hc) ho rfl st2, r⟩
  · obtain ⟨s₂, o, st2, r⟩ := HN hc T locs cells slots X N eT hk hn
    exact ⟨s₂, o, Jvm.RoadKit.acmp (g := mkF m pc Ls (y :: x :: st)) X hx rfl h1 h2 (pc0 := pc) (same := false) rfl d rfl (decide_eq_false hc) ho rfl st2, r⟩
theorem g_acmp_eq {kx nx : Nat} (cx : Cx Z p s m meth c R kx nx own nm code maxL ret) {x y : Value} (h1 : x.isRef = true) (h2 : y.isRef = true) (d : Bi code pc (Instr.if_acmp .eq) pcY pcN) (HY : x = y → G p l e R s m args below meth c Z.heap.size Q h k n pcY Ls st) (HN : ¬ x = y → G p l e R s m args below meth c Z.heap.size Q h k n pcN Ls st) : G p l e R s m args below meth c Z.heap.size Q h k n pc Ls (y :: x :: st) := g_acmp cx h1 h2 d HY HN
theorem g_acmp_ne {kx nx : Nat} (cx : Cx Z p s m meth c R kx nx own nm code maxL ret) {x y : Value} (h1 : x.isRef = true) (h2 : y.isRef = true) (d : Bi code pc (Instr.if_acmp .ne) pcY pcN) (HY : ¬ x = y → G p l e R s m args below meth c Z.heap.size Q h k n pcY Ls st) (HN : x = y → G p l e R s m args below meth c Z.heap.size Q h k n pcN Ls st) : G p l e R s m args below meth c Z.heap.size Q h k n pc Ls (y :: x :: st) := g_acmp cx h1 h2 d HN HY
theorem g_ifnull_null {kx nx : Nat} (cx : Cx Z p s m meth c R kx nx own nm code maxL ret) (d : Bi code pc Instr.ifnull pcY pcN) (H : G p l e R s m args below meth c Z.heap.size Q h k n pcY Ls st) : G p l e R s m args below meth c Z.heap.size Q h k n pc Ls (.null :: st) := by
  obtain ⟨hx, hZ, hown, rfl, hml, hret, hnm, -⟩ := cx
  obtain ⟨o', d, ho, rfl, rfl⟩ := d
  intro T locs cells slots X N eT hk hn
  obtain ⟨s₂, o, st2, r⟩ := H T locs cells slots X N eT hk hn
  exact ⟨s₂, o, Jvm.Free.XS.ifnullYes X.here hx rfl (pc0 := pc) rfl d rfl ho rfl st2, r⟩
theorem g_ifnull_ref {kx nx : Nat} (cx : Cx Z p s m meth c R kx nx own nm code maxL ret) {a : Addr} (d : Bi code pc Instr.ifnull pcY pcN) (H : G p l e R s m args below meth c Z.heap.size Q h k n pcN Ls st) : G p l e R s m args below meth c Z.heap.size Q h k n pc Ls (.ref a :: st) := by
  obtain ⟨hx, hZ, hown, rfl, hml, hret, hnm, -⟩ := cx
  obtain ⟨o', d, ho, rfl, rfl⟩ := d
  intro T locs cells slots X N eT hk hn
  obtain ⟨s₂, o, st2, r⟩ := H T locs cells slots X N eT hk hn
  exact ⟨s₂, o, Jvm.Free.XS.ifnullNo X.here hx rfl d rfl st2, r⟩
theorem g_ifnonnull_ref {kx nx : Nat} (cx : Cx Z p s m meth c R kx nx own nm code maxL ret) {a : Addr} (d : Bi code pc Instr.ifnonnull pcY pcN) (H : G p l e R s m args below meth c Z.heap.size Q h k n pcY Ls st) : G p l e R s m args below meth c Z.heap.size Q h k n pc Ls (.ref a :: st) := by
  obtain ⟨hx, hZ, hown, rfl, hml, hret, hnm, -⟩ := cx
  obtain ⟨o', d, ho, rfl, rfl⟩ := d
  intro T locs cells slots X N eT hk hn
  obtain ⟨s₂, o, st2, r⟩ := H T locs cells slots X N eT hk hn
  exact ⟨s₂, o, Jvm.Free.XS.ifnonnullYes X.here hx rfl (pc0 := pc) rfl d rfl ho rfl st2, r⟩
theorem g_ifnonnull_null {kx nx : Nat} (cx : Cx Z p s m meth c R kx nx own nm code maxL ret) (d : Bi code pc Instr.ifnonnull pcY pcN) (H : G p l e R s m args below meth c Z.heap.size Q h k n pcN Ls st) : G p l e R s m args below meth c Z.heap.size Q h k n pc Ls (.null :: st) := by
  obtain ⟨hx, hZ, hown, rfl, hml, hret, hnm, -⟩ := cx
  obtain ⟨o', d, ho, rfl, rfl⟩ := d
  intro T locs cells slots X N eT hk hn
  obtain ⟨s₂, o, st2, r⟩ := H T locs cells slots X N eT hk hn
  exact ⟨s₂, o, Jvm.Free.XS.ifnonnullNo X.here hx rfl d rfl st2, r⟩
theorem g_ldcI {kx nx : Nat} (cx : Cx Z p s m meth c R kx nx own nm code maxL ret) {i : Nat} {v : Int32} (d : Dc code pc (.ldc i) 2 pc') (w : (Jvm.Cond.constant own i v).before a0 Z = true) (H : G p l e R s m args below meth c Z.heap.size Q h k n pc' Ls (.int v :: st)) : G p l e R s m args below meth c Z.heap.size Q h k n pc Ls st := by
  obtain ⟨hx, hZ, hown, rfl, hml, hret, hnm, -⟩ := cx
  obtain ⟨d, rfl⟩ := d
  intro T locs cells slots X N eT hk hn
  obtain ⟨s₂, o, st2, r⟩ := H T locs cells slots X N eT hk hn
  exact ⟨s₂, o, X.ldcInt hx hown (mvT hZ w) (g := mkF m pc Ls st) rfl d _ st2, r⟩
theorem g_ldcJ {kx nx : Nat} (cx : Cx Z p s m meth c R kx nx own nm code maxL ret) {i : Nat} {v : Int64} (d : Dc code pc (.ldc2_w i) 3 pc') (w : (Jvm.Cond.constantLong own i v).before a0 Z = true) (H : G p l e R s m args below meth c Z.heap.size Q h k n pc' Ls (.long v :: st)) : G p l e R s m args below meth c Z.heap.size Q h k n pc Ls st := by
  obtain ⟨hx, hZ, hown, rfl, hml, hret, hnm, -⟩ := cx
  obtain ⟨d, rfl⟩ := d
  intro T locs cells slots X N eT hk hn
  obtain ⟨s₂, o, st2, r⟩ := H T locs cells slots X N eT hk hn
  exact ⟨s₂, o, X.ldc2Long hx hown (mvT hZ w) (g := mkF m pc Ls st) rfl d _ st2, r⟩
theorem g_getF {kx nx : Nat} (cx : Cx Z p s m meth c R kx nx own nm code maxL ret) {R0 O f ds host : String} {i : Nat} {a : Addr} {v : Value} (d : Dc code pc (.getfield i) 3 pc') (w : (Jvm.Cond.fieldLink own i R0 f ds).before a0 Z = true ∨ (Jvm.Cond.fieldLinkNest own i R0 f ds host).before a0 Z = true) (via : Via Z R0 O f ds) (F : Fld Z h a O f ds v) (H : G p l e R s m args below meth c Z.heap.size Q h k n pc' Ls (v :: st)) : G p l e R s m args below meth c Z.heap.size Q h k n pc Ls (.ref a :: st) := by
  obtain ⟨hx, hZ, hown, rfl, hml, hret, hnm, -⟩ := cx
  obtain ⟨d, rfl⟩ := d
  intro T locs cells slots X N eT hk hn
  obtain ⟨T', X', e', stp⟩ := getF X hx hZ hown w via eT F (g := mkF m pc Ls (.ref a :: st)) rfl rfl d
  obtain ⟨s₂, o, st2, r⟩ := H T' locs cells slots X' N e' hk hn
  exact ⟨s₂, o, stp _ st2, r⟩
theorem g_getS {kx nx : Nat} (cx : Cx Z p s m meth c R kx nx own nm code maxL ret) {R0 O f ds host : String} {i : Nat} {v : Value} (d : Dc code pc (.getstatic i) 3 pc') (w : (Jvm.Cond.fieldLink own i R0 f ds).before a0 Z = true ∨ (Jvm.Cond.fieldLinkNest own i R0 f ds host).before a0 Z = true) (via : Via Z R0 O f ds) (F : Sta Z h O f ds v) (H : G p l e R s m args below meth c Z.heap.size Q h k n pc' Ls (v :: st)) : G p l e R s m args below meth c Z.heap.size Q h k n pc Ls st := by
  obtain ⟨hx, hZ, hown, rfl, hml, hret, hnm, -⟩ := cx
  obtain ⟨d, rfl⟩ := d
  intro T locs cells slots X N eT hk hn
  obtain ⟨T', X', e', stp⟩ := getS2 X hx hZ hown w via eT F (g := mkF m pc Ls st) rfl d
  obtain ⟨s₂, o, st2, r⟩ := H T' locs cells slots X' N e' hk hn
  exact ⟨s₂, o, stp _ st2, r⟩
theorem g_putF {kx nx : Nat} (cx : Cx Z p s m meth c R kx nx own nm code maxL ret) {R0 O f ds host C : String} {i kk : Nat} {ty : FieldType} {a : Addr} {v old : Value} (d : Dc code pc (.putfield i) 3 pc') (w : (Jvm.Cond.fieldLink own i R0 f ds).before a0 Z = true ∨ (Jvm.Cond.fieldLinkNest own i R0 f ds host).before a0 Z = true) (via : Via Z R0 O f ds) (F : Fld Z h a O f ds old) (E : Exa Z h a C)
    (L : (Jvm.Cond.lays C O f ds).before a0 Z = true ∨ ((Jvm.Cond.laysFinal C O f ds).before a0 Z = true ∧ own = O ∧ nm = "<init>")) (wi : (Jvm.Cond.instantiable C kk).before a0 Z = true) (hty : parseFieldDescriptor ds = some ty) (hnar : narrow ty v = v) (hfit : fits ty v = true) (g : Z.heap.size ≤ a)
    (H : ∀ h', Wr h h' a (Jvm.RoadKit.slotOf Z O f ds) v → G p l e R s m args below meth c Z.heap.size Q h' k n pc' Ls st) : G p l e R s m args below meth c Z.heap.size Q h k n pc Ls (v :: .ref a :: st) := by
  obtain ⟨hx, hZ, hown, rfl, hml, hret, rfl, -⟩ := cx
  obtain ⟨d, rfl⟩ := d
  intro T locs cells slots X N eT hk hn
  obtain ⟨T', h', X', e', W, stp⟩ := putF X hx hZ hown w via eT F E L wi hty hnar hfit (g := mkF m pc Ls (v :: .ref a :: st)) rfl rfl d
  obtain ⟨s₂, o, st2, r⟩ := H h' W T' _ cells slots X' (Fr.snoc X' N g) e' hk hn
  exact ⟨s₂, o, stp _ st2, r⟩
theorem g_putFN {kx nx : Nat} (cx : Cx Z p s m meth c R kx nx own nm code maxL ret) {R0 O f ds C : String} {i kk : Nat} {ty : FieldType} {a : Addr} {v v' old : Value} (d : Dc code pc (.putfield i) 3 pc') (w : (Jvm.Cond.fieldLink own i R0 f ds).before a0 Z = true) (via : Via Z R0 O f ds) (F : Fld Z h a O f ds old) (E : Exa Z h a C)
    (L : (Jvm.Cond.lays C O f ds).before a0 Z = true ∨ ((Jvm.Cond.laysFinal C O f ds).before a0 Z = true ∧ own = O ∧ nm = "<init>")) (wi : (Jvm.Cond.instantiable C kk).before a0 Z = true) (hty : parseFieldDescriptor ds = some ty) (hnar : narrow ty v = v') (hfit : fits ty v' = true) (g : Z.heap.size ≤ a)
    (H : ∀ h', Wr h h' a (Jvm.RoadKit.slotOf Z O f ds) v' → G p l e R s m args below meth c Z.heap.size Q h' k n pc' Ls st) : G p l e R s m args below meth c Z.heap.size Q h k n pc Ls (v :: .ref a :: st) := by
  obtain ⟨hx, hZ, hown, rfl, hml, hret, rfl, -⟩ := cx
  obtain ⟨d, rfl⟩ := d
  intro T locs cells slots X N eT hk hn
  obtain ⟨T', h', X', e', W, stp⟩ := putFN X hx hZ hown w via eT F E L wi hty hnar hfit (g := mkF m pc Ls (v :: .ref a :: st)) rfl rfl d
  obtain ⟨s₂, o, st2, r⟩ := H h' W T' _ cells slots X' (Fr.snoc X' N g) e' hk hn
  exact ⟨s₂, o, stp _ st2, r⟩
theorem g_new {kx nx : Nat} (cx : Cx Z p s m meth c R kx nx own nm code maxL ret) {C : String} {i sl : Nat} {k' n' : Nat} (d : Dc code pc (.new i) 3 pc') (w : (Jvm.Cond.classLink own i C).before a0 Z = true) (wi : (Jvm.Cond.instantiable C sl).before a0 Z = true) (wz : (Jvm.Cond.initialized C).before a0 Z = true) (hk1 : k + 1 = k') (hn1 : n + sl = n') (hkR : k' ≤ R.cells) (hnR : n' ≤ R.slots)
    (H : ∀ h' b, b = h.size → Ext h h' → Exa Z h' b C → (∀ {O nm d : String} {ty : FieldType}, Laid Z a0 C O nm d → parseFieldDescriptor d = some ty → Fld Z h' b O nm d (defaultValue ty)) → G p l e R s m args below meth c Z.heap.size Q h' k' n' pc' Ls (.ref b :: st)) : G p l e R s m args below meth c Z.heap.size Q h k n pc Ls st := by
  obtain ⟨hx, hZ, hown, rfl, hml, hret, hnm, -⟩ := cx
  obtain ⟨d, rfl⟩ := d
  subst hk1 hn1
  intro T locs cells slots X N eT hk hn
  obtain ⟨T', h', X', e', E, A, D, -, stp⟩ := newO X hx hZ hown w wi wz eT (g := mkF m pc Ls st) rfl d (by omega) (by omega)
  obtain ⟨s₂, o, st2, r⟩ := H h' _ rfl E A D T' locs _ _ X' N e' (by omega) (by omega)
  exact ⟨s₂, o, stp _ st2, r⟩
theorem g_newarray {kx nx : Nat} (cx : Cx Z p s m meth c R kx nx own nm code maxL ret) {aty : ArrayType} {z : Int32} {cap k' n' : Nat} {ad : String} (had : "[" ++ (newarray.typeOf aty).toString = ad) (d : Dc code pc (.newarray aty) 2 pc') (w : (Jvm.Cond.arrayClass (newarray.typeOf aty)).before a0 Z = true) (hz : ¬ z < 0) (hcap : z.toNatClampNeg ≤ cap) (hb : cap * 8 ≤ 536870912) (hk1 : k + 1 = k') (hn1 : n + cap = n') (hkR : k' ≤ R.cells) (hnR : n' ≤ R.slots)
    (H : ∀ h' b cA, b = h.size → Ext h h' → Arx Z h' b cA (newarray.typeOf aty) z [] (defaultValue (newarray.typeOf aty)) ad → G p l e R s m args below meth c Z.heap.size Q h' k' n' pc' Ls (.ref b :: st)) : G p l e R s m args below meth c Z.heap.size Q h k n pc Ls (.int z :: st) := by
  obtain ⟨hx, hZ, hown, rfl, hml, hret, hnm, -⟩ := cx
  obtain ⟨d, rfl⟩ := d
  subst hk1 hn1
  intro T locs cells slots X N eT hk hn
  obtain ⟨T', h', cA, X', e', E, A, Ex, stp⟩ := newPE X hx hZ w eT (g := mkF m pc Ls (.int z :: st)) rfl d rfl hz hcap hb (by omega) (by omega) had
  obtain ⟨s₂, o, st2, r⟩ := H h' _ cA rfl E ⟨Arv.new A hz, Ex⟩ T' locs _ _ X' N e' (by omega) (by omega)
  exact ⟨s₂, o, stp _ st2, r⟩
theorem g_anewarray {kx nx : Nat} (cx : Cx Z p s m meth c R kx nx own nm code maxL ret) {C ad : String} {i : Nat} {z : Int32} {cap k' n' : Nat} (had : "[" ++ (FieldType.object C).toString = ad) (d : Dc code pc (.anewarray i) 3 pc') (w1 : (Jvm.Cond.classLink own i C).before a0 Z = true) (w2 : (Jvm.Cond.arrayOver (.object C)).before a0 Z = true) (hz : ¬ z < 0) (hcap : z.toNatClampNeg ≤ cap) (hb : cap * 8 ≤ 536870912) (hk1 : k + 1 = k') (hn1 : n + cap = n') (hkR : k' ≤ R.cells) (hnR : n' ≤ R.slots)
    (H : ∀ h' b cA, b = h.size → Ext h h' → Arx Z h' b cA (.object C) z [] .null ad → Ovr Z cA C → G p l e R s m args below meth c Z.heap.size Q h' k' n' pc' Ls (.ref b :: st)) : G p l e R s m args below meth c Z.heap.size Q h k n pc Ls (.int z :: st) := by
  obtain ⟨hx, hZ, hown, rfl, hml, hret, hnm, -⟩ := cx
  obtain ⟨d, rfl⟩ := d
  subst hk1 hn1
  intro T locs cells slots X N eT hk hn
  obtain ⟨T', h', cA, X', e', E, A, Ex, O, stp⟩ := newRE X hx hZ hown w1 w2 eT (g := mkF m pc Ls (.int z :: st)) rfl d rfl hz hcap hb (by omega) (by omega) had
  obtain ⟨s₂, o, st2, r⟩ := H h' _ cA rfl E ⟨Arv.new A hz, Ex⟩ O T' locs _ _ X' N e' (by omega) (by omega)
  exact ⟨s₂, o, stp _ st2, r⟩
theorem g_anewarrayA {kx nx : Nat} (cx : Cx Z p s m meth c R kx nx own nm code maxL ret) {C ad : String} {t : FieldType} {i : Nat} {z : Int32} {cap k' n' : Nat} (hC : (FieldType.array t).toString = C) (had : "[" ++ C = ad) (d : Dc code pc (.anewarray i) 3 pc') (w1 : (Jvm.Cond.classLink own i C).before a0 Z = true) (w2 : (Jvm.Cond.arrayOver (.array t)).before a0 Z = true) (hz : ¬ z < 0) (hcap : z.toNatClampNeg ≤ cap) (hb : cap * 8 ≤ 536870912) (hk1 : k + 1 = k') (hn1 : n + cap = n') (hkR : k' ≤ R.cells) (hnR : n' ≤ R.slots)
    (H : ∀ h' b cA, b = h.size → Ext h h' → Arx Z h' b cA (.array t) z [] .null ad → OvrA Z cA t C → G p l e R s m args below meth c Z.heap.size Q h' k' n' pc' Ls (.ref b :: st)) : G p l e R s m args below meth c Z.heap.size Q h k n pc Ls (.int z :: st) := by
  obtain ⟨hx, hZ, hown, rfl, hml, hret, hnm, -⟩ := cx
  obtain ⟨d, rfl⟩ := d
  subst hk1 hn1
  intro T locs cells slots X N eT hk hn
  obtain ⟨T', h', cA, X', e', E, A, Ex, O, stp⟩ := newRA X hx hZ hown hC w1 w2 eT (g := mkF m pc Ls (.int z :: st)) rfl d rfl hz hcap hb (by omega) (by omega) had
  obtain ⟨s₂, o, st2, r⟩ := H h' _ cA rfl E ⟨Arv.new A hz, Ex⟩ O T' locs _ _ X' N e' (by omega) (by omega)
  exact ⟨s₂, o, stp _ st2, r⟩
theorem g_iastore {kx nx : Nat} (cx : Cx Z p s m meth c R kx nx own nm code maxL ret) {a : Addr} {cA : ClassId} {z j : Int32} {ad : String} {vs : List Value} {dv : Value} {x : Int32} (d : Dc code pc .iastore 1 pc') (A : Arx Z h a cA .int z vs dv ad) (hj : ¬ j < 0 ∧ j < z) (hl : j.toNatClampNeg < vs.length) (g : Z.heap.size ≤ a) (H : ∀ h', Wr h h' a j.toNatClampNeg (.int x) → Arx Z h' a cA .int z (vs.set j.toNatClampNeg (.int x)) dv ad → G p l e R s m args below meth c Z.heap.size Q h' k n pc' Ls st) : G p l e R s m args below meth c Z.heap.size Q h k n pc Ls (.int x :: .int j :: .ref a :: st) := by
  obtain ⟨hx, hZ, hown, rfl, hml, hret, hnm, -⟩ := cx
  obtain ⟨d, rfl⟩ := d
  intro T locs cells slots X N eT hk hn
  obtain ⟨⟨cl, Ar, q, S, Nz, Hs, Gf⟩, Ex⟩ := A
  obtain ⟨T', h', X', e', W, stp⟩ := stI X hx hZ eT Ar (j := j) (inb_of S hj) (g := mkF m pc Ls (.int x :: .int j :: .ref a :: st)) rfl rfl d
  obtain ⟨s₂, o, st2, r⟩ := H h' W ⟨Arv.set Ar q S Nz Hs Gf rfl W _ rfl hl, Ex.wr W⟩ T' _ cells slots X' (Fr.snoc X' N g) e' hk hn
  exact ⟨s₂, o, stp _ st2, r⟩
theorem g_lastore {kx nx : Nat} (cx : Cx Z p s m meth c R kx nx own nm code maxL ret) {a : Addr} {cA : ClassId} {z j : Int32} {ad : String} {vs : List Value} {dv : Value} {x : Int64} (d : Dc code pc .lastore 1 pc') (A : Arx Z h a cA .long z vs dv ad) (hj : ¬ j < 0 ∧ j < z) (hl : j.toNatClampNeg < vs.length) (g : Z.heap.size ≤ a) (H : ∀ h', Wr h h' a j.toNatClampNeg (.long x) → Arx Z h' a cA .long z (vs.set j.toNatClampNeg (.long x)) dv ad → G p l e R s m args below meth c Z.heap.size Q h' k n pc' Ls st) : G p l e R s m args below meth c Z.heap.size Q h k n pc Ls (.long x :: .int j :: .ref a :: st) := by
  obtain ⟨hx, hZ, hown, rfl, hml, hret, hnm, -⟩ := cx
  obtain ⟨d, rfl⟩ := d
  intro T locs cells slots X N eT hk hn
  obtain ⟨⟨cl, Ar, q, S, Nz, Hs, Gf⟩, Ex⟩ := A
  obtain ⟨T', h', X', e', W, stp⟩ := stJ X hx hZ eT Ar (j := j) (inb_of S hj) (g := mkF m pc Ls (.long x :: .int j :: .ref a :: st)) rfl rfl d
  obtain ⟨s₂, o, st2, r⟩ := H h' W ⟨Arv.set Ar q S Nz Hs Gf rfl W _ rfl hl, Ex.wr W⟩ T' _ cells slots X' (Fr.snoc X' N g) e' hk hn
  exact ⟨s₂, o, stp _ st2, r⟩
theorem g_castore {kx nx : Nat} (cx : Cx Z p s m meth c R kx nx own nm code maxL ret) {a : Addr} {cA : ClassId} {z j : Int32} {ad : String} {vs : List Value} {dv : Value} {x : Int32} (d : Dc code pc .castore 1 pc') (A : Arx Z h a cA .char z vs dv ad) (hj : ¬ j < 0 ∧ j < z) (hl : j.toNatClampNeg < vs.length) (g : Z.heap.size ≤ a) (H : ∀ h', Wr h h' a j.toNatClampNeg (.int (nar .char x)) → Arx Z h' a cA .char z (vs.set j.toNatClampNeg (.int (nar .char x))) dv ad → G p l e R s m args below meth c Z.heap.size Q h' k n pc' Ls st) : G p l e R s m args below meth c Z.heap.size Q h k n pc Ls (.int x :: .int j :: .ref a :: st) := by
  obtain ⟨hx, hZ, hown, rfl, hml, hret, hnm, -⟩ := cx
  obtain ⟨d, rfl⟩ := d
  intro T locs cells slots X N eT hk hn
  obtain ⟨⟨cl, Ar, q, S, Nz, Hs, Gf⟩, Ex⟩ := A
  obtain ⟨T', h', X', e', W, stp⟩ := stC X hx hZ eT Ar (j := j) (inb_of S hj) (g := mkF m pc Ls (.int x :: .int j :: .ref a :: st)) rfl rfl d
  obtain ⟨s₂, o, st2, r⟩ := H h' W ⟨Arv.set Ar q S Nz Hs Gf (fits_nar_char _) W _ rfl hl, Ex.wr W⟩ T' _ cells slots X' (Fr.snoc X' N g) e' hk hn
  exact ⟨s₂, o, stp _ st2, r⟩
theorem g_bastore {kx nx : Nat} (cx : Cx Z p s m meth c R kx nx own nm code maxL ret) {a : Addr} {cA : ClassId} {z j : Int32} {ad : String} {vs : List Value} {dv : Value} {x : Int32} (d : Dc code pc .bastore 1 pc') (A : Arx Z h a cA .byte z vs dv ad) (hj : ¬ j < 0 ∧ j < z) (hl : j.toNatClampNeg < vs.length) (g : Z.heap.size ≤ a) (H : ∀ h', Wr h h' a j.toNatClampNeg (.int (nar .byte x)) → Arx Z h' a cA .byte z (vs.set j.toNatClampNeg (.int (nar .byte x))) dv ad → G p l e R s m args below meth c Z.heap.size Q h' k n pc' Ls st) : G p l e R s m args below meth c Z.heap.size Q h k n pc Ls (.int x :: .int j :: .ref a :: st) := by
  obtain ⟨hx, hZ, hown, rfl, hml, hret, hnm, -⟩ := cx
  obtain ⟨d, rfl⟩ := d
  intro T locs cells slots X N eT hk hn
  obtain ⟨⟨cl, Ar, q, S, Nz, Hs, Gf⟩, Ex⟩ := A
  obtain ⟨T', h', X', e', W, stp⟩ := stB X hx hZ eT Ar (j := j) (inb_of S hj) (g := mkF m pc Ls (.int x :: .int j :: .ref a :: st)) rfl rfl d
  obtain ⟨s₂, o, st2, r⟩ := H h' W ⟨Arv.set Ar q S Nz Hs Gf (fits_nar_byte _) W _ rfl hl, Ex.wr W⟩ T' _ cells slots X' (Fr.snoc X' N g) e' hk hn
  exact ⟨s₂, o, stp _ st2, r⟩
theorem g_aastore {kx nx : Nat} (cx : Cx Z p s m meth c R kx nx own nm code maxL ret) {a : Addr} {cA : ClassId} {z j : Int32} {ad : String} {vs : List Value} {dv v : Value} {ty : FieldType} (d : Dc code pc .aastore 1 pc') (A : Arx Z h a cA ty z vs dv ad) (hty : ty.isReference = true) (hf : fits ty v = true) (So : Sto Z h a v) (hj : ¬ j < 0 ∧ j < z) (hl : j.toNatClampNeg < vs.length) (g : Z.heap.size ≤ a) (H : ∀ h', Wr h h' a j.toNatClampNeg v → Arx Z h' a cA ty z (vs.set j.toNatClampNeg v) dv ad → G p l e R s m args below meth c Z.heap.size Q h' k n pc' Ls st) : G p l e R s m args below meth c Z.heap.size Q h k n pc Ls (v :: .int j :: .ref a :: st) := by
  obtain ⟨hx, hZ, hown, rfl, hml, hret, hnm, -⟩ := cx
  obtain ⟨d, rfl⟩ := d
  intro T locs cells slots X N eT hk hn
  obtain ⟨⟨cl, Ar, q, S, Nz, Hs, Gf⟩, Ex⟩ := A
  obtain ⟨T', h', X', e', W, stp⟩ := stR X hx hZ eT Ar (j := j) (inb_of S hj) hty So (g := mkF m pc Ls (v :: .int j :: .ref a :: st)) rfl rfl d
  obtain ⟨s₂, o, st2, r⟩ := H h' W ⟨Arv.set Ar q S Nz Hs Gf hf W _ rfl hl, Ex.wr W⟩ T' _ cells slots X' (Fr.snoc X' N g) e' hk hn
  exact ⟨s₂, o, stp _ st2, r⟩
theorem g_iaload {kx nx : Nat} (cx : Cx Z p s m meth c R kx nx own nm code maxL ret) {a : Addr} {cA : ClassId} {z j : Int32} {vs : List Value} {dv v : Value} (d : Dc code pc .iaload 1 pc') (A : Arv Z h a cA .int z vs dv) (hj : ¬ j < 0 ∧ j < z) (hv : vs.getD j.toNatClampNeg dv = v) (H : G p l e R s m args below meth c Z.heap.size Q h k n pc' Ls (v :: st)) : G p l e R s m args below meth c Z.heap.size Q h k n pc Ls (.int j :: .ref a :: st) := by
  obtain ⟨hx, hZ, hown, rfl, hml, hret, hnm, -⟩ := cx
  obtain ⟨d, rfl⟩ := d
  intro T locs cells slots X N eT hk hn
  obtain ⟨cl, Ar, q, S, Nz, Hs, Gf⟩ := A
  obtain ⟨s₂, o, st2, r⟩ := H T _ cells slots X N eT hk hn
  exact ⟨s₂, o, X.iaload hx (j := j) (v := v) (by rw [eT]; exact Ar.1) (State.isArrayOf_alike hZ.alike Ar.2.1) Ar.2.2 (inb_of S hj) (Hs.at (inb_of S hj) hv) (g := mkF m pc Ls (.int j :: .ref a :: st)) rfl rfl d _ st2, r⟩
theorem g_laload {kx nx : Nat} (cx : Cx Z p s m meth c R kx nx own nm code maxL ret) {a : Addr} {cA : ClassId} {z j : Int32} {vs : List Value} {dv v : Value} (d : Dc code pc .laload 1 pc') (A : Arv Z h a cA .long z vs dv) (hj : ¬ j < 0 ∧ j < z) (hv : vs.getD j.toNatClampNeg dv = v) (H : G p l e R s m args below meth c Z.heap.size Q h k n pc' Ls (v :: st)) : G p l e R s m args below meth c Z.heap.size Q h k n pc Ls (.int j :: .ref a :: st) := by
  obtain ⟨hx, hZ, hown, rfl, hml, hret, hnm, -⟩ := cx
  obtain ⟨d, rfl⟩ := d
  intro T locs cells slots X N eT hk hn
  obtain ⟨cl, Ar, q, S, Nz, Hs, Gf⟩ := A
  obtain ⟨s₂, o, st2, r⟩ := H T _ cells slots X N eT hk hn
  exact ⟨s₂, o, X.laload hx (j := j) (v := v) (by rw [eT]; exact Ar.1) (State.isArrayOf_alike hZ.alike Ar.2.1) Ar.2.2 (inb_of S hj) (Hs.at (inb_of S hj) hv) (g := mkF m pc Ls (.int j :: .ref a :: st)) rfl rfl d _ st2, r⟩
theorem g_caload {kx nx : Nat} (cx : Cx Z p s m meth c R kx nx own nm code maxL ret) {a : Addr} {cA : ClassId} {z j : Int32} {vs : List Value} {dv v : Value} (d : Dc code pc .caload 1 pc') (A : Arv Z h a cA .char z vs dv) (hj : ¬ j < 0 ∧ j < z) (hv : vs.getD j.toNatClampNeg dv = v) (H : G p l e R s m args below meth c Z.heap.size Q h k n pc' Ls (v :: st)) : G p l e R s m args below meth c Z.heap.size Q h k n pc Ls (.int j :: .ref a :: st) := by
  obtain ⟨hx, hZ, hown, rfl, hml, hret, hnm, -⟩ := cx
  obtain ⟨d, rfl⟩ := d
  intro T locs cells slots X N eT hk hn
  obtain ⟨cl, Ar, q, S, Nz, Hs, Gf⟩ := A
  obtain ⟨s₂, o, st2, r⟩ := H T _ cells slots X N eT hk hn
  exact ⟨s₂, o, X.caload hx (j := j) (v := v) (by rw [eT]; exact Ar.1) (State.isArrayOf_alike hZ.alike Ar.2.1) Ar.2.2 (inb_of S hj) (Hs.at (inb_of S hj) hv) (g := mkF m pc Ls (.int j :: .ref a :: st)) rfl rfl d _ st2, r⟩
theorem g_baload {kx nx : Nat} (cx : Cx Z p s m meth c R kx nx own nm code maxL ret) {a : Addr} {cA : ClassId} {z j : Int32} {vs : List Value} {dv v : Value} (d : Dc code pc .baload 1 pc') (A : Arv Z h a cA .byte z vs dv) (hj : ¬ j < 0 ∧ j < z) (hv : vs.getD j.toNatClampNeg dv = v) (H : G p l e R s m args below meth c Z.heap.size Q h k n pc' Ls (v :: st)) : G p l e R s m args below meth c Z.heap.size Q h k n pc Ls (.int j :: .ref a :: st) := by
  obtain ⟨hx, hZ, hown, rfl, hml, hret, hnm, -⟩ := cx
  obtain ⟨d, rfl⟩ := d
  intro T locs cells slots X N eT hk hn
  obtain ⟨cl, Ar, q, S, Nz, Hs, Gf⟩ := A
  obtain ⟨s₂, o, st2, r⟩ := H T _ cells slots X N eT hk hn
  exact ⟨s₂, o, X.baloadBytes hx (j := j) (v := v) (by rw [eT]; exact Ar.1) (State.isArrayOf_alike hZ.alike Ar.2.1) Ar.2.2 (inb_of S hj) (Hs.at (inb_of S hj) hv) (g := mkF m pc Ls (.int j :: .ref a :: st)) rfl rfl d _ st2, r⟩
theorem g_aaload {kx nx : Nat} (cx : Cx Z p s m meth c R kx nx own nm code maxL ret) {a : Addr} {cA : ClassId} {z j : Int32} {vs : List Value} {dv v : Value} {ty : FieldType} (d : Dc code pc .aaload 1 pc') (A : Arv Z h a cA ty z vs dv) (hty : ty.isReference = true) (hj : ¬ j < 0 ∧ j < z) (hv : vs.getD j.toNatClampNeg dv = v) (H : G p l e R s m args below meth c Z.heap.size Q h k n pc' Ls (v :: st)) : G p l e R s m args below meth c Z.heap.size Q h k n pc Ls (.int j :: .ref a :: st) := by
  obtain ⟨hx, hZ, hown, rfl, hml, hret, hnm, -⟩ := cx
  obtain ⟨d, rfl⟩ := d
  intro T locs cells slots X N eT hk hn
  obtain ⟨cl, Ar, q, S, Nz, Hs, Gf⟩ := A
  obtain ⟨s₂, o, st2, r⟩ := H T _ cells slots X N eT hk hn
  exact ⟨s₂, o, X.aaload hx (j := j) (v := v) (by rw [eT]; exact Ar.1) (State.isArrayOf_alike hZ.alike Ar.2.1) hty Ar.2.2 (inb_of S hj) (Hs.at (inb_of S hj) hv) (g := mkF m pc Ls (.int j :: .ref a :: st)) rfl rfl d _ st2, r⟩
theorem g_arraylength {kx nx : Nat} (cx : Cx Z p s m meth c R kx nx own nm code maxL ret) {a : Addr} {cA : ClassId} {z : Int32} {vs : List Value} {dv : Value} {ty : FieldType} (d : Dc code pc .arraylength 1 pc') (A : Arv Z h a cA ty z vs dv) (H : G p l e R s m args below meth c Z.heap.size Q h k n pc' Ls (.int z :: st)) : G p l e R s m args below meth c Z.heap.size Q h k n pc Ls (.ref a :: st) := by
  obtain ⟨hx, hZ, hown, rfl, hml, hret, hnm, -⟩ := cx
  obtain ⟨d, rfl⟩ := d
  intro T locs cells slots X N eT hk hn
  obtain ⟨cl, Ar, q, S, Nz, Hs, Gf⟩ := A
  obtain ⟨s₂, o, st2, r⟩ := H T _ cells slots X N eT hk hn
  exact ⟨s₂, o, X.arraylength hx (by rw [eT]; exact Ar.1) (State.isArrayOf_alike hZ.alike Ar.2.1) (g := mkF m pc Ls (.ref a :: st)) rfl rfl d _ (by rw [len_of S Nz]; exact st2), r⟩
theorem g_checkcast {kx nx : Nat} (cx : Cx Z p s m meth c R kx nx own nm code maxL ret) {K : String} {i : Nat} {a : Addr} (d : Dc code pc (.checkcast i) 3 pc') (w : (Jvm.Cond.classLink own i K).before a0 Z = true) (F : Ins Z h a K true) (H : G p l e R s m args below meth c Z.heap.size Q h k n pc' Ls (.ref a :: st)) : G p l e R s m args below meth c Z.heap.size Q h k n pc Ls (.ref a :: st) := by
  obtain ⟨hx, hZ, hown, rfl, hml, hret, hnm, -⟩ := cx
  obtain ⟨d, rfl⟩ := d
  intro T locs cells slots X N eT hk hn
  obtain ⟨T', X', e', stp⟩ := castY X hx hZ hown w eT F (g := mkF m pc Ls (.ref a :: st)) rfl rfl d
  obtain ⟨s₂, o, st2, r⟩ := H T' _ cells slots X' N e' hk hn
  exact ⟨s₂, o, stp _ st2, r⟩
theorem g_instanceY {kx nx : Nat} (cx : Cx Z p s m meth c R kx nx own nm code maxL ret) {K : String} {i : Nat} {a : Addr} (d : Dc code pc (.instanceof i) 3 pc') (w : (Jvm.Cond.classLink own i K).before a0 Z = true) (F : Ins Z h a K true) (H : G p l e R s m args below meth c Z.heap.size Q h k n pc' Ls (.int 1 :: st)) : G p l e R s m args below meth c Z.heap.size Q h k n pc Ls (.ref a :: st) := by
  obtain ⟨hx, hZ, hown, rfl, hml, hret, hnm, -⟩ := cx
  obtain ⟨d, rfl⟩ := d
  intro T locs cells slots X N eT hk hn
  obtain ⟨T', X', e', stp⟩ := instY X hx hZ hown w eT F (g := mkF m pc Ls (.ref a :: st)) rfl rfl d
  obtain ⟨s₂, o, st2, r⟩ := H T' _ cells slots X' N e' hk hn
  exact ⟨s₂, o, stp _ st2, r⟩
theorem g_ret {kx nx : Nat} (cx : Cx Z p s m meth c R kx nx own nm code maxL ret) {t : FieldType} {w v : Value} {i : Instr} (d : Dc code pc i 1 pc') (hR : ret = some t)
    (hs : ∀ T locs cells slots, Stand p l e R s m args below meth c T locs cells slots → ∀ fs, (∀ (f : JFrame) (acts : List Action), f.method = m → f.locked = none → f.entered = [] → (doReturn e (T.setTop f) acts (some v)).1 = T.setFrames fs) → Steps p.tables e below (T.setTop (mkF m pc Ls (w :: st))) (T.setFrames fs))
    (hk : k ≤ R.cells) (hn : n ≤ R.slots) (q : Q (some v) h) : G p l e R s m args below meth c Z.heap.size Q h k n pc Ls (w :: st) := by
  obtain ⟨hx, hZ, hown, rfl, hml, rfl, hnm, hlk⟩ := cx
  intro T locs cells slots X N eT hk' hn'
  obtain ⟨fs, hr, hrun, hended, hW, hsame⟩ := X.leave (v := some v) (fun h => by rw [hR] at h; cases h) hlk
  exact ⟨_, _, hs T locs cells slots X fs hr, hrun, hended, _, locs, rfl, ⟨by show Q _ T.heap; rw [eT]; exact q, N⟩, ⟨_, rfl⟩, hW, hsame.mono (by omega) (by omega)⟩
theorem g_retI {kx nx : Nat} (cx : Cx Z p s m meth c R kx nx own nm code maxL ret) {x : Int32} (d : Dc code pc .ireturn 1 pc') (hR : ret = some .int) (hk : k ≤ R.cells) (hn : n ≤ R.slots) (q : Q (some (.int x)) h) : G p l e R s m args below meth c Z.heap.size Q h k n pc Ls (.int x :: st) :=
  g_ret cx (t := .int) d hR (fun T locs cells slots X fs hl => retOut X cx.1 (cx.2.2.2.2.2.1.trans hR) rfl (Or.inl ⟨rfl, Or.inl rfl, _, rfl⟩) (by rw [cx.2.2.2.1]; exact d.1) hl) hk hn q
theorem g_retJ {kx nx : Nat} (cx : Cx Z p s m meth c R kx nx own nm code maxL ret) {x : Int64} (d : Dc code pc .lreturn 1 pc') (hR : ret = some .long) (hk : k ≤ R.cells) (hn : n ≤ R.slots) (q : Q (some (.long x)) h) : G p l e R s m args below meth c Z.heap.size Q h k n pc Ls (.long x :: st) :=
  g_ret cx (t := .long) d hR (fun T locs cells slots X fs hl => retOut X cx.1 (cx.2.2.2.2.2.1.trans hR) rfl (Or.inr (Or.inl ⟨rfl, rfl, _, rfl⟩)) (by rw [cx.2.2.2.1]; exact d.1) hl) hk hn q
theorem g_retN {kx nx : Nat} (cx : Cx Z p s m meth c R kx nx own nm code maxL ret) {x : Int32} {t : FieldType} (d : Dc code pc .ireturn 1 pc') (hR : ret = some t) (ht : t = .boolean ∨ t = .byte ∨ t = .char ∨ t = .short) (hk : k ≤ R.cells) (hn : n ≤ R.slots) (q : Q (some (.int (nar t x))) h) : G p l e R s m args below meth c Z.heap.size Q h k n pc Ls (.int x :: st) :=
  g_ret cx (t := t) d hR (fun T locs cells slots X fs hl => retN X cx.1 (cx.2.2.2.2.2.1.trans hR) ht (by rw [cx.2.2.2.1]; exact d.1) hl) hk hn q
theorem g_retZ {kx nx : Nat} (cx : Cx Z p s m meth c R kx nx own nm code maxL ret) {x : Int32} (d : Dc code pc .ireturn 1 pc') (hR : ret = some .boolean) (hx01 : nar .boolean x = x) (hk : k ≤ R.cells) (hn : n ≤ R.slots) (q : Q (some (.int x)) h) : G p l e R s m args below meth c Z.heap.size Q h k n pc Ls (.int x :: st) :=
  g_retN cx d hR (Or.inl rfl) hk hn (by rw [hx01]; exact q)
theorem g_retA {kx nx : Nat} (cx : Cx Z p s m meth c R kx nx own nm code maxL ret) {w : Value} {t : FieldType} (d : Dc code pc .areturn 1 pc') (hR : ret = some t) (ht : t.isReference = true) (hw : w.isRef = true) (hnar : narrow t w = w) (hk : k ≤ R.cells) (hn : n ≤ R.slots) (q : Q (some w) h) : G p l e R s m args below meth c Z.heap.size Q h k n pc Ls (w :: st) :=
  g_ret cx (t := t) d hR (fun T locs cells slots X fs hl => retOut X cx.1 (cx.2.2.2.2.2.1.trans hR) hnar (Or.inr (Or.inr (Or.inr (Or.inr ⟨rfl, ht, hw⟩)))) (by rw [cx.2.2.2.1]; exact d.1) hl) hk hn q
theorem g_retV {kx nx : Nat} (cx : Cx Z p s m meth c R kx nx own nm code maxL ret) (d : Dc code pc .return_ 1 pc') (hR : ret = none) (hk : k ≤ R.cells) (hn : n ≤ R.slots) (q : Q none h) : G p l e R s m args below meth c Z.heap.size Q h k n pc Ls [] := by
  obtain ⟨hx, hZ, hown, rfl, hml, rfl, hnm, hlk⟩ := cx
  intro T locs cells slots X N eT hk' hn'
  obtain ⟨fs, hr, hrun, hended, hW, hsame⟩ := X.leave (v := none) (fun _ => rfl) hlk
  exact ⟨_, _, X.returnOut hx hR d.1 hr, hrun, hended, _, locs, rfl, ⟨by show Q _ T.heap; rw [eT]; exact q, N⟩, ⟨_, rfl⟩, hW, hsame.mono (by omega) (by omega)⟩
theorem g_initO {kx nx : Nat} (cx : Cx Z p s m meth c R kx nx own nm code maxL ret) {i W : Nat} {a : Addr} (d : Dc code pc (.invokespecial i) 3 pc') (w1 : (Jvm.Cond.methodLink own i Lib.objectInit).before a0 Z = true) (w2 : (Jvm.Cond.instanceMethod Lib.objectInit).before a0 Z = true) (w3 : (Jvm.Cond.code Lib.objectInit ⟨#[0xb1]⟩ 1 none).before a0 Z = true) (hsz : Ls.size = maxL) (hf : 1 ≤ R.frames) (hW : (st.map fun v => v.category).sum ≤ W) (hl : W + 12 ≤ R.locals)
    (H : G p l e R s m args below meth c Z.heap.size Q h k n pc' Ls st) : G p l e R s m args below meth c Z.heap.size Q h k n pc Ls (.ref a :: st) := by
  obtain ⟨hx, hZ, hown, rfl, hml, hret, hnm, -⟩ := cx
  obtain ⟨d, rfl⟩ := d
  intro T locs cells slots X N eT hk hn
  obtain ⟨T', X', e', stp⟩ := initO X hx hZ hown w1 w2 w3 eT (g := mkF m pc Ls (.ref a :: st)) rfl (by rw [hml]; exact hsz) rfl d hf (W := W) (by show 2 * 0 + _ ≤ _; omega) hl
  obtain ⟨s₂, o, st2, r⟩ := H T' locs cells slots X' N e' hk hn
  exact ⟨s₂, o, stp _ st2, r⟩
theorem own_dummy : True := trivial
theorem g_static {kx nx : Nat} (cx : Cx Z p s m meth c R kx nx own nm code maxL ret) {i W k' n' maxL' : Nat} {bytes : ByteArray} {ret' : Option FieldType} {rm : Room} {argsL : List Value} {Q' : Option Value → Heap → Prop} {y : MethodName} (d : Dc code pc (.invokestatic i) 3 pc') (w1 : (Jvm.Cond.methodLink own i y).before a0 Z = true) (w2 : (Jvm.Cond.static y).before a0 Z = true) (w3 : (Jvm.Cond.initialized y.cls).before a0 Z = true) (w4 : (Jvm.Cond.code y bytes maxL' ret').before a0 Z = true) (hy : y.cls ≠ "java/lang/invoke/MethodHandle" ∧ y.cls ≠ "java/lang/invoke/VarHandle") (M : Met l Z y bytes maxL' ret' rm argsL.toArray h Q') (hsz : Ls.size = maxL) (hlen : ∀ sig, parseMethodDescriptor y.desc = some sig → argsL.length = sig.parameters.length) (hf : rm.frames + 1 ≤ R.frames) (hW : (rest.map fun v => v.category).sum ≤ W) (hl : W + (maxL' + 11) + rm.locals ≤ R.locals) (hk1 : k + rm.cells = k') (hn1 : n + rm.slots = n') (hkR : k' ≤ R.cells) (hnR : n' ≤ R.slots)
    (hst : st = argsL.reverse ++ rest) (H : ∀ v h', Q' v h' → G p l e R s m args below meth c Z.heap.size Q h' k' n' pc' Ls (v.toList ++ rest)) : G p l e R s m args below meth c Z.heap.size Q h k n pc Ls st := by
  obtain ⟨hx, hZ, hown, rfl, hml, hret, hnm, -⟩ := cx
  obtain ⟨d, rfl⟩ := d
  subst hk1 hn1 hst
  intro T locs cells slots X N eT hk hn
  obtain ⟨v, _, ⟨T', L', k1', n1'⟩, -, X', ⟨Lc, hQ, l1, l2, l3⟩, stp⟩ := Jvm.LawKit.callS X hx (y := y) hown (mvT hZ w1) (mvT hZ w2) (mvT hZ w3) (mvT hZ w4) hy (backOf (W := W) (Q := fun v h L => Q' v h ∧ Fr Z.heap.size L) (M []) hZ w4 w3 hf hl) (g := mkF m pc Ls (argsL.reverse ++ rest)) rfl (by rw [hml]; exact hsz)  (argsL := argsL) (rest := rest) hlen rfl (by show 2 * 0 + _ ≤ _; omega) d (fun _ _ => ⟨rfl, eT, (by show cells + rm.cells ≤ _; omega), (by show slots + rm.slots ≤ _; omega)⟩)
  dsimp only [Pt.U, Pt.locs, Pt.cells, Pt.slots] at X' l1 l2 l3 stp hQ
  subst l1 l2 l3
  obtain ⟨s₂, o, st2, r⟩ := H v T'.heap hQ.1 T' _ _ _ X' (Fr.app N hQ.2) rfl (by omega) (by omega)
  exact ⟨s₂, o, stp _ st2, r⟩
theorem g_special {kx nx : Nat} (cx : Cx Z p s m meth c R kx nx own nm code maxL ret) {i W k' n' maxL' : Nat} {bytes : ByteArray} {ret' : Option FieldType} {rm : Room} {argsL : List Value} {Q' : Option Value → Heap → Prop} {y : MethodName} {a : Addr} (d : Dc code pc (.invokespecial i) 3 pc') (hyn : y.name = "<init>") (hr0 : ret' = none) (w1 : (Jvm.Cond.methodLink own i y).before a0 Z = true) (w2 : (Jvm.Cond.instanceMethod y).before a0 Z = true) (w3 : (Jvm.Cond.initialized y.cls).before a0 Z = true) (w4 : (Jvm.Cond.code y bytes maxL' ret').before a0 Z = true) (hy : y.cls ≠ "java/lang/invoke/MethodHandle" ∧ y.cls ≠ "java/lang/invoke/VarHandle") (M : Met l Z y bytes maxL' ret' rm (.ref a :: argsL).toArray h Q') (hsz : Ls.size = maxL) (hlen : ∀ sig, parseMethodDescriptor y.desc = some sig → argsL.length = sig.parameters.length) (hf : rm.frames + 1 ≤ R.frames) (hW : (rest.map fun v => v.category).sum ≤ W) (hl : W + (maxL' + 11) + rm.locals ≤ R.locals) (hk1 : k + rm.cells = k') (hn1 : n + rm.slots = n') (hkR : k' ≤ R.cells) (hnR : n' ≤ R.slots)
    (hst : st = argsL.reverse ++ .ref a :: rest) (H : ∀ v h', Q' v h' → G p l e R s m args below meth c Z.heap.size Q h' k' n' pc' Ls (v.toList ++ rest)) : G p l e R s m args below meth c Z.heap.size Q h k n pc Ls st := by
  obtain ⟨hx, hZ, hown, rfl, hml, hret, hnm, -⟩ := cx
  obtain ⟨d, rfl⟩ := d
  subst hk1 hn1 hst
  intro T locs cells slots X N eT hk hn
  subst hr0
  obtain ⟨v, _, ⟨T', L', k1', n1'⟩, -, X', ⟨Lc, hQ, l1, l2, l3⟩, stp⟩ := X.specialBack hx (y := y) hyn hown (mvT hZ w1) (mvT hZ w2) (mvT hZ w4) hy (backOf (W := W) (Q := fun v h L => Q' v h ∧ Fr Z.heap.size L) (M []) hZ w4 w3 hf hl) (g := mkF m pc Ls (argsL.reverse ++ .ref a :: rest)) rfl (by rw [hml]; exact hsz) (Steps.refl _) (a := a) (argsL := argsL) (rest := rest) hlen rfl (by show 2 * 0 + _ ≤ _; omega) d (fun _ _ => ⟨rfl, eT, (by show cells + rm.cells ≤ _; omega), (by show slots + rm.slots ≤ _; omega)⟩)
  dsimp only [Pt.U, Pt.locs, Pt.cells, Pt.slots] at X' l1 l2 l3 stp hQ
  subst l1 l2 l3
  obtain ⟨s₂, o, st2, r⟩ := H v T'.heap hQ.1 T' _ _ _ X' (Fr.app N hQ.2) rfl (by omega) (by omega)
  exact ⟨s₂, o, stp.trans st2, r⟩
theorem g_virtual {kx nx : Nat} (cx : Cx Z p s m meth c R kx nx own nm code maxL ret) {i W k' n' maxL' : Nat} {bytes : ByteArray} {ret' : Option FieldType} {rm : Room} {argsL : List Value} {Q' : Option Value → Heap → Prop} {y z : MethodName} {a : Addr} {C : String} (d : Dc code pc (.invokevirtual i) 3 pc') (w1 : (Jvm.Cond.methodLink own i y).before a0 Z = true) (w2 : (Jvm.Cond.declares y).before a0 Z = true) (w3 : (Jvm.Cond.initialized z.cls).before a0 Z = true) (w4 : (Jvm.Cond.code z bytes maxL' ret').before a0 Z = true) (w5 : (Jvm.Cond.selects C y z).before a0 Z = true) (w6 : (Jvm.Cond.instanceMethod z).before a0 Z = true) (hnf : y = z) (hy : y.cls ≠ "java/lang/invoke/MethodHandle" ∧ y.cls ≠ "java/lang/invoke/VarHandle") (E : Exa Z h a C) (M : Met l Z z bytes maxL' ret' rm (.ref a :: argsL).toArray h Q') (hsz : Ls.size = maxL) (hlen : ∀ sig, parseMethodDescriptor y.desc = some sig → argsL.length = sig.parameters.length) (hf : rm.frames + 1 ≤ R.frames) (hW : (rest.map fun v => v.category).sum ≤ W) (hl : W + (maxL' + 11) + rm.locals ≤ R.locals) (hk1 : k + rm.cells = k') (hn1 : n + rm.slots = n') (hkR : k' ≤ R.cells) (hnR : n' ≤ R.slots)
    (hst : st = argsL.reverse ++ .ref a :: rest) (H : ∀ v h', Q' v h' → G p l e R s m args below meth c Z.heap.size Q h' k' n' pc' Ls (v.toList ++ rest)) : G p l e R s m args below meth c Z.heap.size Q h k n pc Ls st := by
  obtain ⟨hx, hZ, hown, rfl, hml, hret, hnm, -⟩ := cx
  obtain ⟨d, rfl⟩ := d
  subst hk1 hn1 hst
  intro T locs cells slots X N eT hk hn
  subst hnf
  obtain ⟨cq, kq, q1, q2, q3⟩ := isOf hZ eT E
  obtain ⟨v, _, ⟨T', L', k1', n1'⟩, -, X', ⟨Lc, hQ, l1, l2, l3⟩, stp⟩ := X.virtualBack hx (y := y) (z := y) hown (mvT hZ w1) (mvT hZ w2) (notFace_of_selects (args := #[]) (mvT hZ w5)) (mvT hZ w5) (mvT hZ w6) hy (backOf (W := W) (Q := fun v h L => Q' v h ∧ Fr Z.heap.size L) (M []) hZ w4 w3 hf hl) q1 q3 (g := mkF m pc Ls (argsL.reverse ++ .ref a :: rest)) rfl (by rw [hml]; exact hsz) (Steps.refl _) (argsL := argsL) (rest := rest) hlen rfl (by show 2 * 0 + _ ≤ _; omega) d (fun _ _ => ⟨rfl, eT, (by show cells + rm.cells ≤ _; omega), (by show slots + rm.slots ≤ _; omega)⟩)
  dsimp only [Pt.U, Pt.locs, Pt.cells, Pt.slots] at X' l1 l2 l3 stp hQ
  subst l1 l2 l3
  obtain ⟨s₂, o, st2, r⟩ := H v T'.heap hQ.1 T' _ _ _ X' (Fr.app N hQ.2) rfl (by omega) (by omega)
  exact ⟨s₂, o, stp.trans st2, r⟩
theorem g_private {kx nx : Nat} (cx : Cx Z p s m meth c R kx nx own nm code maxL ret) {i W k' n' maxL' : Nat} {bytes : ByteArray} {ret' : Option FieldType} {rm : Room} {argsL : List Value} {Q' : Option Value → Heap → Prop} {y : MethodName} {a : Addr} (d : Dc code pc (.invokevirtual i) 3 pc') (w1 : (Jvm.Cond.methodLink own i y).before a0 Z = true) (w2 : (Jvm.Cond.instanceMethod y).before a0 Z = true) (w3 : (Jvm.Cond.initialized y.cls).before a0 Z = true) (w4 : (Jvm.Cond.code y bytes maxL' ret').before a0 Z = true) (w5 : (Jvm.Cond.selects y.cls y y).before a0 Z = true) (w6 : (Jvm.Cond.privateMethod y).before a0 Z = true) (hy : y.cls ≠ "java/lang/invoke/MethodHandle" ∧ y.cls ≠ "java/lang/invoke/VarHandle") {C : String} (E : Exa Z h a C) (M : Met l Z y bytes maxL' ret' rm (.ref a :: argsL).toArray h Q') (hsz : Ls.size = maxL) (hlen : ∀ sig, parseMethodDescriptor y.desc = some sig → argsL.length = sig.parameters.length) (hf : rm.frames + 1 ≤ R.frames) (hW : (rest.map fun v => v.category).sum ≤ W) (hl : W + (maxL' + 11) + rm.locals ≤ R.locals) (hk1 : k + rm.cells = k') (hn1 : n + rm.slots = n') (hkR : k' ≤ R.cells) (hnR : n' ≤ R.slots)
    (hst : st = argsL.reverse ++ .ref a :: rest) (H : ∀ v h', Q' v h' → G p l e R s m args below meth c Z.heap.size Q h' k' n' pc' Ls (v.toList ++ rest)) : G p l e R s m args below meth c Z.heap.size Q h k n pc Ls st := by
  obtain ⟨hx, hZ, hown, rfl, hml, hret, hnm, -⟩ := cx
  obtain ⟨d, rfl⟩ := d
  subst hk1 hn1 hst
  intro T locs cells slots X N eT hk hn
  obtain ⟨cq, q1, q2⟩ := E.cell
  obtain ⟨v, _, ⟨T', L', k1', n1'⟩, -, X', ⟨Lc, hQ, l1, l2, l3⟩, stp⟩ := X.privateBack hx (y := y) hown (mvT hZ w1) (mvT hZ w2) (mvT hZ w5) (Cond.privateMethod_at (mvP hZ w6 (args := #[]))) (mvT hZ w4) hy (backOf (W := W) (Q := fun v h L => Q' v h ∧ Fr Z.heap.size L) (M []) hZ w4 w3 hf hl) (g := mkF m pc Ls (argsL.reverse ++ .ref a :: rest)) rfl (by rw [hml]; exact hsz) (Steps.refl _) (a := a) (by rw [eT]; exact q1) q2 (argsL := argsL) (rest := rest) hlen rfl (by show 2 * 0 + _ ≤ _; omega) d (fun _ _ => ⟨rfl, eT, (by show cells + rm.cells ≤ _; omega), (by show slots + rm.slots ≤ _; omega)⟩)
  dsimp only [Pt.U, Pt.locs, Pt.cells, Pt.slots] at X' l1 l2 l3 stp hQ
  subst l1 l2 l3
  obtain ⟨s₂, o, st2, r⟩ := H v T'.heap hQ.1 T' _ _ _ X' (Fr.app N hQ.2) rfl (by omega) (by omega)
  exact ⟨s₂, o, stp.trans st2, r⟩
theorem g_virtualUp {kx nx : Nat} (cx : Cx Z p s m meth c R kx nx own nm code maxL ret) {i W k' n' maxL' : Nat} {bytes : ByteArray} {ret' : Option FieldType} {rm : Room} {argsL : List Value} {Q' : Option Value → Heap → Prop} {x y : MethodName} {a : Addr} {C owner : String} (d : Dc code pc (.invokevirtual i) 3 pc') (w1 : (Jvm.Cond.methodLink own i x).before a0 Z = true) (w0 : (Jvm.Cond.sameMethod x.cls owner x.name x.desc).before a0 Z = true) (w2 : (Jvm.Cond.declares ⟨owner, x.name, x.desc⟩).before a0 Z = true) (w3 : (Jvm.Cond.initialized y.cls).before a0 Z = true) (w4 : (Jvm.Cond.code y bytes maxL' ret').before a0 Z = true) (w5 : (Jvm.Cond.selects C x y).before a0 Z = true) (w6 : (Jvm.Cond.instanceMethod y).before a0 Z = true) (hy : owner ≠ "java/lang/invoke/MethodHandle" ∧ owner ≠ "java/lang/invoke/VarHandle") (E : Exa Z h a C) (M : Met l Z y bytes maxL' ret' rm (.ref a :: argsL).toArray h Q') (hsz : Ls.size = maxL) (hlen : ∀ sig, parseMethodDescriptor x.desc = some sig → argsL.length = sig.parameters.length) (hf : rm.frames + 1 ≤ R.frames) (hW : (rest.map fun v => v.category).sum ≤ W) (hl : W + (maxL' + 11) + rm.locals ≤ R.locals) (hk1 : k + rm.cells = k') (hn1 : n + rm.slots = n') (hkR : k' ≤ R.cells) (hnR : n' ≤ R.slots)
    (hst : st = argsL.reverse ++ .ref a :: rest) (H : ∀ v h', Q' v h' → G p l e R s m args below meth c Z.heap.size Q h' k' n' pc' Ls (v.toList ++ rest)) : G p l e R s m args below meth c Z.heap.size Q h k n pc Ls st := by
  obtain ⟨hx, hZ, hown, rfl, hml, hret, hnm, -⟩ := cx
  obtain ⟨d, rfl⟩ := d
  subst hk1 hn1 hst
  intro T locs cells slots X N eT hk hn
  obtain ⟨cq, kq, q1, q2, q3⟩ := isOf hZ eT E
  obtain ⟨v, _, ⟨T', L', k1', n1'⟩, -, X', ⟨Lc, hQ, l1, l2, l3⟩, stp⟩ := X.virtualBackUp hx (x := x) (y := y) hown (mvT hZ w1) (mvT hZ w0) (mvT hZ w2) hy (mvT hZ w5) (mvT hZ w6) (backOf (W := W) (Q := fun v h L => Q' v h ∧ Fr Z.heap.size L) (M []) hZ w4 w3 hf hl) q1 q3 (g := mkF m pc Ls (argsL.reverse ++ .ref a :: rest)) rfl (by rw [hml]; exact hsz) (Steps.refl _) (argsL := argsL) (rest := rest) hlen rfl (by show 2 * 0 + _ ≤ _; omega) d (fun _ _ => ⟨rfl, eT, (by show cells + rm.cells ≤ _; omega), (by show slots + rm.slots ≤ _; omega)⟩)
  dsimp only [Pt.U, Pt.locs, Pt.cells, Pt.slots] at X' l1 l2 l3 stp hQ
  subst l1 l2 l3
  obtain ⟨s₂, o, st2, r⟩ := H v T'.heap hQ.1 T' _ _ _ X' (Fr.app N hQ.2) rfl (by omega) (by omega)
  exact ⟨s₂, o, stp.trans st2, r⟩
theorem specialRef {T : State} {locs : List Loc} {cells slots : Nat} (X : Stand p l e R s m args below meth c T locs cells slots) (hexec : p.tables.exec = Jvm.exec) (hZ : Z.Warmed39 s.vm) {index : Nat} {y : MethodName} (hy1 : y.name = "<init>") (hown : s.vm.findClass own = some m.cls)
    (href : (Jvm.Cond.methodRef own index y).before a0 Z = true) (hinst : (Jvm.Cond.instanceMethod y).before a0 Z = true) {bytes : ByteArray} {mL : Nat} (hcode : (Jvm.Cond.code y bytes mL none).before a0 Z = true) (hy : y.cls ≠ "java/lang/invoke/MethodHandle" ∧ y.cls ≠ "java/lang/invoke/VarHandle")
    {W : Nat} {Pre : Pt → Array Value → Prop} {Post : Pt → Array Value → Option Value → Pt → Prop} (hK : Back l R p e below s args y 3 W Pre Post)
    {g : JFrame} (hg : g.method = m) (hsize : g.locals.size = c.maxLocals) {a : Addr} {argsL rest : List Value}
    (hlen : ∀ sig, parseMethodDescriptor y.desc = some sig → argsL.length = sig.parameters.length) (hstack : g.stack = argsL.reverse ++ .ref a :: rest) (hW : 2 * g.monitorRoom + (rest.map fun v => v.category).sum ≤ W)
    (hdg : decode c.code g.pc = .ok (.invokespecial index, 3)) (hpre : Pre ⟨T, locs, cells, slots⟩ (.ref a :: argsL).toArray) :
    ∃ (v : Option Value) (B : Pt), Stand p l e R s m args below meth c B.U B.locs B.cells B.slots ∧ Post ⟨T, locs, cells, slots⟩ (.ref a :: argsL).toArray v B ∧
      Steps p.tables e below (T.setTop g) (B.U.setTop { g with pc := g.pc + 3, stack := v.toList ++ rest }) := by
  have hZT : Z.Warmed39 T.vm := wtrans hZ X.warmed
  have hinst' : (Jvm.Cond.instanceMethod y).before args s = true := mvT hZ hinst
  have hcode' : (Jvm.Cond.code y bytes mL none).before args s = true := mvT hZ hcode
  obtain ⟨obj, methO, hnO, hmO, hstO, habO⟩ := Cond.instanceMethod_spec hinst'
  obtain ⟨methO', cO, hmO', hcO, hbO, hlO, -, hlockO, -, hsigO⟩ := Cond.code_spec hnO hcode'
  cases hmO.symm.trans hmO'
  obtain ⟨kO, hkO, hnameO⟩ := className_of_methodNamed hnO
  obtain ⟨hnameMO, hdescO⟩ := name_of_methodNamed hnO hmO
  obtain ⟨objZ, _, hnZ, -⟩ := Cond.instanceMethod_spec hinst
  have hr : (Jvm.Cond.methodRef own index y).before a0 (Z.setVm T.vm) = true := Cond.methodRef_warmed39 hZT hnZ hy href
  have hownT : (Z.setVm T.vm).vm.findClass own = some m.cls := by show T.vm.findClass own = _; rw [X.warmed.alike.findClass]; exact hown
  obtain ⟨m', c', hm', hready, hfind, hnamed⟩ := Cond.methodRef_named e hownT hr
  have hf0 : s.methodFound? y.cls y.name y.desc = some obj := State.methodFound?_of_named hnO hy
  have hf1 : (s.setVm T.vm).methodFound? y.cls y.name y.desc = some obj := (State.methodFound?_setVm_of_named X.warmed.alike hnO hy).trans hf0
  have hf2 : (Z.setVm T.vm).methodFound? y.cls y.name y.desc = some obj := hf1
  cases hf2.symm.trans hm'
  have hcc : c' = obj.cls := by
    have h1 : T.vm.findClass y.cls = some c' := hfind
    rw [X.warmed.alike.findClass, findClass_of_methodNamed hnO] at h1
    exact (Option.some.inj h1).symm
  subst hcc
  obtain ⟨kO₂, hkO₂, heO₂⟩ := X.warmed.alike.2.2 _ _ hkO
  have hmO₂ : T.vm.method? obj = some methO := by rw [X.warmed.alike.method?]; exact hmO
  have hfound : lookupSpecial T.vm obj.cls "<init>" methO.desc = .method obj := by
    rw [X.warmed.alike.lookupSpecial, hdescO, ← hy1]; exact lookupSpecial_of_named hnO hmO hstO
  obtain ⟨v, B, X', hpost, hsteps⟩ := hK m meth c ⟨T, locs, cells, slots⟩ { g with stack := rest } (.invokespecial index) obj (.ref a :: argsL).toArray X hg hsize hdg hW (X.named hnO) hpre
  refine ⟨v, B, X', hpost, Steps.trans ?_ hsteps⟩
  subst hg
  jvm_step X.here [hexec, hdg, invokespecial.wp_init (e := e) (s := T) (k := kO₂) (meth := methO) (m := obj) (a := a) (args := argsL) (rest := rest) (f := g) X.here.top hnamed hready hkO₂ hmO₂ (by rw [hnameMO]; exact hy1) hstO habO hfound (hlen _ hsigO) hstack]
  intro acts
  rw [doInvoke_state]
  exact Steps.refl _
theorem g_specialRef {kx nx : Nat} (cx : Cx Z p s m meth c R kx nx own nm code maxL ret) {i W k' n' maxL' : Nat} {bytes : ByteArray} {ret' : Option FieldType} {rm : Room} {argsL : List Value} {Q' : Option Value → Heap → Prop} {y : MethodName} {a : Addr} (d : Dc code pc (.invokespecial i) 3 pc') (hyn : y.name = "<init>") (hr0 : ret' = none) (w1 : (Jvm.Cond.methodRef own i y).before a0 Z = true) (w2 : (Jvm.Cond.instanceMethod y).before a0 Z = true) (w3 : (Jvm.Cond.initialized y.cls).before a0 Z = true) (w4 : (Jvm.Cond.code y bytes maxL' ret').before a0 Z = true) (hy : y.cls ≠ "java/lang/invoke/MethodHandle" ∧ y.cls ≠ "java/lang/invoke/VarHandle") (M : Met l Z y bytes maxL' ret' rm (.ref a :: argsL).toArray h Q') (hsz : Ls.size = maxL) (hlen : ∀ sig, parseMethodDescriptor y.desc = some sig → argsL.length = sig.parameters.length) (hf : rm.frames + 1 ≤ R.frames) (hW : (rest.map fun v => v.category).sum ≤ W) (hl : W + (maxL' + 11) + rm.locals ≤ R.locals) (hk1 : k + rm.cells = k') (hn1 : n + rm.slots = n') (hkR : k' ≤ R.cells) (hnR : n' ≤ R.slots)
    (hst : st = argsL.reverse ++ .ref a :: rest) (H : ∀ v h', Q' v h' → G p l e R s m args below meth c Z.heap.size Q h' k' n' pc' Ls (v.toList ++ rest)) : G p l e R s m args below meth c Z.heap.size Q h k n pc Ls st := by
  obtain ⟨hx, hZ, hown, rfl, hml, hret, hnm, -⟩ := cx
  obtain ⟨d, rfl⟩ := d
  subst hk1 hn1 hst
  intro T locs cells slots X N eT hk hn
  subst hr0
  obtain ⟨v, ⟨T', L', k1', n1'⟩, X', ⟨Lc, hQ, l1, l2, l3⟩, stp⟩ := specialRef X hx hZ (y := y) hyn hown w1 w2 w4 hy (backOf (W := W) (Q := fun v h L => Q' v h ∧ Fr Z.heap.size L) (M []) hZ w4 w3 hf hl) (g := mkF m pc Ls (argsL.reverse ++ .ref a :: rest)) rfl (by rw [hml]; exact hsz) (a := a) (argsL := argsL) (rest := rest) hlen rfl (by show 2 * 0 + _ ≤ _; omega) d ⟨rfl, eT, (by show cells + rm.cells ≤ _; omega), (by show slots + rm.slots ≤ _; omega)⟩
  dsimp only [Pt.U, Pt.locs, Pt.cells, Pt.slots] at X' l1 l2 l3 stp hQ
  subst l1 l2 l3
  obtain ⟨s₂, o, st2, r⟩ := H v T'.heap hQ.1 T' _ _ _ X' (Fr.app N hQ.2) rfl (by omega) (by omega)
  exact ⟨s₂, o, stp.trans st2, r⟩
theorem g_lsw {kx nx : Nat} (cx : Cx Z p s m meth c R kx nx own nm code maxL ret) {x : Int32} {dflt : Int} {pairs : Array (Int × Int)} {len : Nat} (d : decode code pc = .ok (.lookupswitch dflt pairs, len)) (hs : (pairs.toList.zip (pairs.toList.drop 1)).all (fun (a, next) => a.1 < next.1) = true) {off : Int} (hf : ((pairs.find? (·.1 == x.toInt)).map (·.2)).getD dflt = off) (h0 : 0 ≤ (pc : Int) + off) (hp : ((pc : Int) + off).toNat = pc') (H : G p l e R s m args below meth c Z.heap.size Q h k n pc' Ls st) : G p l e R s m args below meth c Z.heap.size Q h k n pc Ls (.int x :: st) := by
  obtain ⟨hx, hZ, hown, rfl, hml, hret, hnm, -⟩ := cx
  subst hp
  intro T locs cells slots X N eT hk hn
  obtain ⟨s₂, o, st2, r⟩ := H T locs cells slots X N eT hk hn
  cases hq : pairs.find? (·.1 == x.toInt) with
  | none =>
    rw [hq] at hf
    have hf' : dflt = off := hf
    subst hf'
    exact ⟨s₂, o, X.lookupswitchMiss hx (g := mkF m pc Ls (.int x :: st)) rfl rfl d hs hq h0 _ st2, r⟩
  | some ao =>
    rw [hq] at hf
    have hf' : ao.2 = off := hf
    subst hf'
    exact ⟨s₂, o, X.lookupswitchHit hx (g := mkF m pc Ls (.int x :: st)) rfl rfl d hs (a := ao.1) (off := ao.2) hq h0 _ st2, r⟩
theorem lsw_miss {x : Int32} {dflt : Int} {pairs : Array (Int × Int)} (q : ∀ a ∈ pairs.toList, a.1 ≠ x.toInt) : ((pairs.find? (·.1 == x.toInt)).map (·.2)).getD dflt = dflt := by rw [find_miss q]; rfl
theorem g_aaloadR {kx nx : Nat} (cx : Cx Z p s m meth c R kx nx own nm code maxL ret) {a : Addr} {cl : Cell} {j : Int32} {v : Value} {ty : FieldType} (d : Dc code pc .aaload 1 pc') (A : Arr Z h a cl ty) (hty : ty.isReference = true) (hj : ¬ (j < 0 ∨ cl.slots.size ≤ j.toNatClampNeg)) (hv : cl.slots[j.toNatClampNeg]? = some v) (H : G p l e R s m args below meth c Z.heap.size Q h k n pc' Ls (v :: st)) : G p l e R s m args below meth c Z.heap.size Q h k n pc Ls (.int j :: .ref a :: st) := by
  obtain ⟨hx, hZ, hown, rfl, hml, hret, hnm, -⟩ := cx
  obtain ⟨d, rfl⟩ := d
  intro T locs cells slots X N eT hk hn
  obtain ⟨s₂, o, st2, r⟩ := H T _ cells slots X N eT hk hn
  exact ⟨s₂, o, X.aaload hx (j := j) (v := v) (by rw [eT]; exact A.1) (State.isArrayOf_alike hZ.alike A.2.1) hty A.2.2 hj hv (g := mkF m pc Ls (.int j :: .ref a :: st)) rfl rfl d _ st2, r⟩
theorem arr_len {t : Term} {a : Addr} {cl : Cell} {ty : FieldType} {z : Int32} (ev : t.eval args Z none [] Z = some (.ref a)) (A : Arr Z Z.heap a cl ty) (h3 : (Jvm.Cond.eq (.length t) (.int z)).value args Z none Z [] = some true) : cl.slots.size < 2 ^ 31 ∧ cl.slots.size.toInt32 = z := by
  have ex := eqv_i (F := .int z) rfl h3
  have A1 := A.fin (Vm.Alike.refl _)
  have hl : cl.slots.size < 2 ^ 31 := by
    refine Decidable.byContradiction fun hc => ?_
    simp [Term.eval, ev, A1, hc] at ex
  rw [len_f ev A1 hl] at ex
  exact ⟨hl, by simpa using ex⟩
theorem sta_arr {C f d : String} {ty : FieldType} {z : Int32} (hi : (Jvm.Cond.initializedFor C f d).before args Z = true ∨ ((Jvm.Cond.initialized C).before args Z = true ∧ (Jvm.Cond.laysStatic C f d).before args Z = true)) (h1 : (Jvm.Cond.arrayOf (.static C f d) ty).value args Z none Z [] = some true) (h3 : (Jvm.Cond.eq (.length (.static C f d)) (.int z)).value args Z none Z [] = some true) :
    ∃ a cl, Sta Z Z.heap C f d (.ref a) ∧ (Term.static C f d).eval args Z none [] Z = some (.ref a) ∧ Arr Z Z.heap a cl ty ∧ cl.slots.size < 2 ^ 31 ∧ cl.slots.size.toInt32 = z := by
  obtain ⟨a, ev⟩ := arr_v h1
  obtain ⟨cl, A⟩ := Arr.start ev h1
  obtain ⟨q1, q2⟩ := arr_len ev A h3
  exact ⟨a, cl, Sta.start ev hi, ev, A, q1, q2⟩
theorem fld_exa {t : Term} {C f d K : String} {a : Addr} (ev : t.eval args Z none [] Z = some (.ref a)) (h : (Jvm.Cond.exactly (.field t C f d) K).value args Z none Z [] = some true) : ∃ b, Fld Z Z.heap a C f d (.ref b) ∧ Exa Z Z.heap b K ∧ (Term.field t C f d).eval args Z none [] Z = some (.ref b) := by
  obtain ⟨b, eb⟩ := exa_v h
  exact ⟨b, Fld.start ((fld_at ev).symm.trans eb), Exa.start eb h, eb⟩
theorem fld_arr {t : Term} {C f d : String} {a : Addr} {ty : FieldType} {z : Int32} (ev : t.eval args Z none [] Z = some (.ref a)) (h : (Jvm.Cond.arrayOf (.field t C f d) ty).value args Z none Z [] = some true) (h3 : (Jvm.Cond.eq (.length (.field t C f d)) (.int z)).value args Z none Z [] = some true) : ∃ b cl, Fld Z Z.heap a C f d (.ref b) ∧ (Term.field t C f d).eval args Z none [] Z = some (.ref b) ∧ Arr Z Z.heap b cl ty ∧ cl.slots.size < 2 ^ 31 ∧ cl.slots.size.toInt32 = z := by
  obtain ⟨b, eb⟩ := arr_v h
  obtain ⟨cl, A⟩ := Arr.start eb h
  obtain ⟨q1, q2⟩ := arr_len eb A h3
  exact ⟨b, cl, Fld.start ((fld_at ev).symm.trans eb), eb, A, q1, q2⟩
theorem elem_eq {t : Term} {a : Addr} {cl : Cell} {ty : FieldType} {j v : Int32} (ev : t.eval args Z none [] Z = some (.ref a)) (A : Arr Z Z.heap a cl ty) (h : (Jvm.Cond.eq (.elem t (.int j)) (.int v)).value args Z none Z [] = some true) : cl.slots[j.toNatClampNeg]? = some (.int v) := (elem_in (eqv_i (F := .int v) rfl h) ev rfl A.1).2
theorem own_selpriv {y : MethodName} {sl : Nat} (hins : (Jvm.Cond.instantiable y.cls sl).before a0 Z = true) (hpriv : (Jvm.Cond.privateMethod y).before a0 Z = true) (hinst : (Jvm.Cond.instanceMethod y).before a0 Z = true) (hy : y.cls ≠ "java/lang/invoke/MethodHandle" ∧ y.cls ≠ "java/lang/invoke/VarHandle") : (Jvm.Cond.selects y.cls y y).before a0 Z = true := by
  obtain ⟨c, k, hc, hk, -, hniab, -, -⟩ := Cond.instantiable_spec hins
  have hni : k.isInterface = false := (Bool.or_eq_false_iff.mp hniab).1
  obtain ⟨mk, methM, hnamed, hmethM, -, -⟩ := Cond.instanceMethod_spec hinst
  have hfound : Z.methodFound? y.cls y.name y.desc = some mk := State.methodFound?_of_named hnamed hy
  have hcls : mk.cls = c := Option.some.inj ((findClass_of_methodNamed hnamed).symm.trans hc)
  have hsel : selectMethod {} Z.vm c mk = .method mk := selectMethod_private hmethM (Cond.privateMethod_at hpriv mk methM hnamed hmethM)
  simp only [Cond.before, Cond.holds, Cond.value, hc, hfound, hnamed, hsel, hcls, hk]
  simp; exact hni
theorem nar1 : nar .boolean 1 = 1 := rfl
theorem nar0 : nar .boolean 0 = 0 := rfl
theorem sta_exa {C f d K : String} (hx : (Jvm.Cond.exactly (.static C f d) K).value args Z none Z [] = some true) (wi : (Jvm.Cond.initialized C).before args Z = true) (wl : (Jvm.Cond.laysStatic C f d).before args Z = true) : ∃ a, Sta Z Z.heap C f d (.ref a) ∧ Exa Z Z.heap a K ∧ (Term.static C f d).eval args Z none [] Z = some (.ref a) := by
  obtain ⟨a, ev⟩ := exa_v hx
  exact ⟨a, Sta.start ev (Or.inr ⟨wi, wl⟩), Exa.start ev hx, ev⟩
theorem fld_eq {t : Term} {C f d : String} {a : Addr} {v : Int32} (ev : t.eval args Z none [] Z = some (.ref a)) (h : (Jvm.Cond.eq (.field t C f d) (.int v)).value args Z none Z [] = some true) : Fld Z Z.heap a C f d (.int v) := by
  obtain ⟨x, y, ex, ey, -, k2⟩ := cmp_v (Or.inl h)
  have e2 : y = .int v := by simpa [Term.eval] using ey.symm
  subst e2
  obtain ⟨z, rfl⟩ := k2
  have hz : z = v := by simpa [Cond.value, ex, ey] using h
  subst hz
  rw [fld_at ev] at ex
  exact Fld.start ex
theorem sta_int {C f d : String} (hi : (Jvm.Cond.initializedFor C f d).before args Z = true) (h1 : (Jvm.Cond.isInt (.static C f d)).before args Z = true) : ∃ v, Sta Z Z.heap C f d (.int v) ∧ (Term.static C f d).eval args Z none [] Z = some (.int v) := by
  obtain ⟨v, ev⟩ := is_v (Cond.before_iff.mp h1)
  exact ⟨v, Sta.start ev (Or.inl hi), ev⟩
theorem ne_of_not {t : Term} {z v : Int32} (ev : t.eval args Z none [] Z = some (.int z)) (h : (Jvm.Cond.not (.eq t (.int v))).before args Z = true) : ¬ z = v := by
  have h2 := not_v (Cond.before_iff.mp h)
  intro q
  subst q
  simp [Cond.value, ev, Term.eval] at h2
theorem own_lrem (x y : Int64) (d : Int) (hy : y.toInt = d) : (0 ≤ x.toInt → (x % y).toInt = x.toInt % d) ∧ (x.toInt < 0 → (x % y).toInt = -((-x.toInt) % d)) := by
  rw [← lrem_mod]; exact c_lrem x y d hy
end Walk
section WalkX
variable {p : Program} {l : Launch} {e : Env} {R : Room} {s : State} {m : MethodId} {args : Array Value} {below : List Frame} {meth : Method} {c : Code} {Z : State} {a0 : Array Value} {k n : Nat} {own nm : String} {code : ByteArray} {maxL : Nat} {ret : Option FieldType} {n0 : Nat} {Q : Option Value → Heap → Prop} {h : Heap} {pc pc' pcY pcN : Nat} {Ls : Array Slot} {st rest : List Value}
def own_nz (x : Int32) : Int32 := if x = 0 then 0 else 1
theorem own_nz_b (x : Int32) : 0 ≤ (own_nz x).toInt ∧ (own_nz x).toInt ≤ 1 := by
  unfold own_nz; split <;> decide
theorem g_tern {kx nx : Nat} (cx : Cx Z p s m meth c R kx nx own nm code maxL ret) {x : Int32} {pc1 pc2 pcB pcZ : Nat} (d : Bi code pc (Instr.ifCond .eq) pcY pc1) (d1 : Dc code pc1 (.iconst 1) 1 pc2) (d2 : Bi code pc2 Instr.goto pcB pcZ) (d0 : Dc code pcY (.iconst 0) 1 pcB) (H : G p l e R s m args below meth c Z.heap.size Q h k n pcB Ls (.int (own_nz x) :: st)) : G p l e R s m args below meth c Z.heap.size Q h k n pc Ls (.int x :: st) :=
  g_if_eq cx d (fun q => g_iconst cx d0 (v := 0) rfl (by rw [show own_nz x = 0 from if_pos q] at H; exact H)) (fun q => g_iconst cx d1 (v := 1) rfl (g_goto cx d2 (by rw [show own_nz x = 1 from if_neg q] at H; exact H)))
theorem g_copy {kx nx : Nat} (cx : Cx Z p s m meth c R kx nx own nm code maxL ret) {i W : Nat} {a b : Addr} {k1 k' : ClassId} {ty : FieldType} {z z' sp dp nn : Int32} {vs vd us : List Value} {dv dd : Value} {ad : String} (d : Dc code pc (.invokestatic i) 3 pc') (w1 : (Jvm.Cond.methodLink own i Jvm.Stand.acN).before a0 Z = true) (w2 : (Jvm.Cond.native Jvm.Stand.acN).before a0 Z = true) (w3 : (Jvm.Cond.static Jvm.Stand.acN).before a0 Z = true) (w4 : (Jvm.Cond.initialized "java/lang/System").before a0 Z = true) (A : Arv Z h a k1 ty z vs dv) (B : Arx Z h b k' ty z' vd dd ad) (hty : refKind ty = false) (h1 : ¬ sp < 0) (h2 : ¬ dp < 0) (h3 : ¬ nn < 0) (h4 : sp.toNatClampNeg + nn.toNatClampNeg ≤ z.toNatClampNeg) (h5 : dp.toNatClampNeg + nn.toNatClampNeg ≤ z'.toNatClampNeg)
    (hus : us = (List.range nn.toNatClampNeg).map fun i => vs.getD (sp.toNatClampNeg + i) dv) (hl : dp.toNatClampNeg + nn.toNatClampNeg ≤ vd.length) (ge : Z.heap.size ≤ b) (hsz : Ls.size = maxL) (hf : 1 ≤ R.frames) (hW : (rest.map fun v => v.category).sum ≤ W) (hlo : W + 18 ≤ R.locals)
    (H : ∀ h', Keep h h' [b] → Arx Z h' b k' ty z' (vd.take dp.toNatClampNeg ++ us ++ vd.drop (dp.toNatClampNeg + nn.toNatClampNeg)) dd ad → G p l e R s m args below meth c Z.heap.size Q h' k n pc' Ls rest) : G p l e R s m args below meth c Z.heap.size Q h k n pc Ls (.int nn :: .int dp :: .ref b :: .int sp :: .ref a :: rest) := by
  obtain ⟨hx, hZ, hown, rfl, hml, hret, hnm, -⟩ := cx
  obtain ⟨d, rfl⟩ := d
  intro T locs cells slots X N eT hk hn
  obtain ⟨T', h', L, X', e', N', K, A', stp⟩ := cpA X hx hZ hown w1 w2 w3 w4 eT A B.1 (Or.inl ⟨rfl, hty⟩) h1 h2 h3 h4 h5 hus hl N ge (g := mkF m pc Ls (.int nn :: .int dp :: .ref b :: .int sp :: .ref a :: rest)) rfl (by rw [hml]; exact hsz) (rest := rest) rfl d hf (W := W) (by show 2 * 0 + _ ≤ _; omega) hlo
  obtain ⟨s₂, o, st2, r⟩ := H h' K ⟨A', B.2.keep K⟩ T' L cells slots X' N' e' hk hn
  exact ⟨s₂, o, stp _ st2, r⟩
theorem g_ldcwI {kx nx : Nat} (cx : Cx Z p s m meth c R kx nx own nm code maxL ret) {i : Nat} {v : Int32} (d : Dc code pc (.ldc_w i) 3 pc') (w : (Jvm.Cond.constant own i v).before a0 Z = true) (H : G p l e R s m args below meth c Z.heap.size Q h k n pc' Ls (.int v :: st)) : G p l e R s m args below meth c Z.heap.size Q h k n pc Ls st := by
  obtain ⟨hx, hZ, hown, rfl, hml, hret, hnm, -⟩ := cx
  obtain ⟨d, rfl⟩ := d
  intro T locs cells slots X N eT hk hn
  obtain ⟨s₂, o, st2, r⟩ := H T locs cells slots X N eT hk hn
  exact ⟨s₂, o, X.ldcwInt hx hown (mvT hZ w) (g := mkF m pc Ls st) rfl d _ st2, r⟩
end WalkX
section WalkI
variable {p : Program} {l : Launch} {e : Env} {R : Room} {s : State} {m : MethodId} {args : Array Value} {below : List Frame} {meth : Method} {c : Code} {Z : State} {a0 : Array Value} {k n : Nat} {own nm : String} {code : ByteArray} {maxL : Nat} {ret : Option FieldType} {n0 : Nat} {Q : Option Value → Heap → Prop} {h : Heap} {pc pc' pcY pcN : Nat} {Ls : Array Slot} {st rest : List Value}
theorem g_interface {kx nx : Nat} (cx : Cx Z p s m meth c R kx nx own nm code maxL ret) {i W k' n' maxL' : Nat} {bytes : ByteArray} {ret' : Option FieldType} {rm : Room} {argsL : List Value} {Q' : Option Value → Heap → Prop} {x y : MethodName} {a : Addr} {C : String} {cnt : Nat} (d : Dc code pc (.invokeinterface i cnt) 5 pc') (w1 : (Jvm.Cond.methodLink own i x).before a0 Z = true) (w2 : (Jvm.Cond.declares x).before a0 Z = true) (wf : (Jvm.Cond.interfaceMethod x.cls x.cls x.name x.desc).before a0 Z = true) (w3 : (Jvm.Cond.initialized y.cls).before a0 Z = true) (w4 : (Jvm.Cond.code y bytes maxL' ret').before a0 Z = true) (w5 : (Jvm.Cond.selects C x y).before a0 Z = true) (w6 : (Jvm.Cond.instanceMethod y).before a0 Z = true) (w7 : (Jvm.Cond.publicMethod y).before a0 Z = true) (w8 : (Jvm.Cond.unhidden C x.name x.desc).before a0 Z = true) (w9 : (Jvm.Cond.castable C x.cls).before a0 Z = true) (hy : x.cls ≠ "java/lang/invoke/MethodHandle" ∧ x.cls ≠ "java/lang/invoke/VarHandle") (E : Exa Z h a C) (M : Met l Z y bytes maxL' ret' rm (.ref a :: argsL).toArray h Q') (hsz : Ls.size = maxL) (hlen : ∀ sig, parseMethodDescriptor x.desc = some sig → argsL.length = sig.parameters.length) (hf : rm.frames + 1 ≤ R.frames) (hW : (rest.map fun v => v.category).sum ≤ W) (hl : W + (maxL' + 11) + rm.locals ≤ R.locals) (hk1 : k + rm.cells = k') (hn1 : n + rm.slots = n') (hkR : k' ≤ R.cells) (hnR : n' ≤ R.slots)
    (hst : st = argsL.reverse ++ .ref a :: rest) (H : ∀ v h', Q' v h' → G p l e R s m args below meth c Z.heap.size Q h' k' n' pc' Ls (v.toList ++ rest)) : G p l e R s m args below meth c Z.heap.size Q h k n pc Ls st := by
  obtain ⟨hx, hZ, hown, rfl, hml, hret, hnm, -⟩ := cx
  obtain ⟨d, rfl⟩ := d
  subst hk1 hn1 hst
  intro T locs cells slots X N eT hk hn
  obtain ⟨cq, kq, q1, q2, q3⟩ := isOf hZ eT E
  obtain ⟨v, _, ⟨T', L', k1', n1'⟩, -, X', ⟨Lc, hQ, l1, l2, l3⟩, stp⟩ := X.interfaceBack hx (xi := x) (y := y) hown (mvT hZ w1) (mvT hZ w2) (mvT hZ wf (by simp [Cond.onTables, Cond.keepsFace, Cond.keeps, Cond.steady, Cond.faceAtom]; exact hy)) (mvT hZ w5) (mvT hZ w6) (mvT hZ w7) (mvT hZ w8) (mvT hZ w9) hy (backOf (W := W) (Q := fun v h L => Q' v h ∧ Fr Z.heap.size L) (M []) hZ w4 w3 hf hl) q1 q2 q3 (g := mkF m pc Ls (argsL.reverse ++ .ref a :: rest)) rfl (by rw [hml]; exact hsz) (Steps.refl _) (argsL := argsL) (rest := rest) hlen rfl (by show 2 * 0 + _ ≤ _; omega) d (fun _ _ => ⟨rfl, eT, (by show cells + rm.cells ≤ _; omega), (by show slots + rm.slots ≤ _; omega)⟩)
  dsimp only [Pt.U, Pt.locs, Pt.cells, Pt.slots] at X' l1 l2 l3 stp hQ
  subst l1 l2 l3
  obtain ⟨s₂, o, st2, r⟩ := H v T'.heap hQ.1 T' _ _ _ X' (Fr.app N hQ.2) rfl (by omega) (by omega)
  exact ⟨s₂, o, stp.trans st2, r⟩
end WalkI
def ObT (Z : State) (h : Heap) (a : Addr) (v1 v2 : Value) : Prop := Exa Z h a "java/lang/String" ∧ Fld Z h a "java/lang/String" "coder" "B" v1 ∧ Fld Z h a "java/lang/String" "value" "[B" v2
theorem ObT.ext {h' : Heap} {Z : State} {h : Heap} {a : Addr} {v1 v2 : Value} (F : ObT Z h a v1 v2) (E : Ext h h') : ObT Z h' a v1 v2 := ⟨F.1.ext E, F.2.1.ext E, F.2.2.ext E⟩
theorem ObT.keep {h' : Heap} {Z : State} {h : Heap} {a : Addr} {v1 v2 : Value} {ws : List Addr} (F : ObT Z h a v1 v2) (K : Keep h h' ws) (q : a ∉ ws) : ObT Z h' a v1 v2 := ⟨F.1.keep K, F.2.1.keep K q, F.2.2.keep K q⟩
theorem ObT.oth {x : Addr} {sl : Nat} {w : Value} {h' : Heap} {Z : State} {h : Heap} {a : Addr} {v1 v2 : Value} (F : ObT Z h a v1 v2) (W : Wr h h' x sl w) (q : a ≠ x) : ObT Z h' a v1 v2 := ⟨F.1.wr W, F.2.1.other W (Or.inl q), F.2.2.other W (Or.inl q)⟩
theorem ObT.lt {Z : State} {h : Heap} {a : Addr} {v1 v2 : Value} (F : ObT Z h a v1 v2) : a < h.size := F.1.lt
theorem ObT.put1 {v : Value} {h' : Heap} {Z : State} {h : Heap} {a : Addr} {v1 v2 : Value} {a0 : Array Value} (hw : ∀ d ∈ tables_1, d.before a0 Z = true) (F : ObT Z h a v1 v2) (W : Wr h h' a (Jvm.RoadKit.slotOf Z "java/lang/String" "coder" "B") v) : ObT Z h' a v v2 := ⟨F.1.wr W, F.2.1.same W, F.2.2.other W (Or.inr (slot_ne (Or.inr (hw _ (List.mem_of_getElem? (i := 36) rfl))) (Or.inr (hw _ (List.mem_of_getElem? (i := 34) rfl))) (by decide) (t := (.array .byte)) (t' := .byte) (by decide) (by decide)))⟩
theorem ObT.put2 {v : Value} {h' : Heap} {Z : State} {h : Heap} {a : Addr} {v1 v2 : Value} {a0 : Array Value} (hw : ∀ d ∈ tables_1, d.before a0 Z = true) (F : ObT Z h a v1 v2) (W : Wr h h' a (Jvm.RoadKit.slotOf Z "java/lang/String" "value" "[B") v) : ObT Z h' a v1 v := ⟨F.1.wr W, F.2.1.other W (Or.inr (slot_ne (Or.inr (hw _ (List.mem_of_getElem? (i := 34) rfl))) (Or.inr (hw _ (List.mem_of_getElem? (i := 36) rfl))) (by decide) (t := .byte) (t' := (.array .byte)) (by decide) (by decide))), F.2.2.same W⟩
theorem ObT.new {Z : State} {h : Heap} {b : Addr} {a0 : Array Value} (hw : ∀ d ∈ tables_1, d.before a0 Z = true) (E : Exa Z h b "java/lang/String") (D : ∀ {O nm d : String} {ty : FieldType}, Laid Z a0 "java/lang/String" O nm d → parseFieldDescriptor d = some ty → Fld Z h b O nm d (defaultValue ty)) : ObT Z h b (.int (0 : Int32)) .null := ⟨E, D (Or.inr (hw _ (List.mem_of_getElem? (i := 34) rfl))) (ty := .byte) (by decide), D (Or.inr (hw _ (List.mem_of_getElem? (i := 36) rfl))) (ty := (.array .byte)) (by decide)⟩
def ObP (Z : State) (h : Heap) (a : Addr) (v1 v2 v3 v4 v5 : Value) : Prop := Exa Z h a "com/example/crisp_typedef/crisptypedef/NumberText$Parts" ∧ Fld Z h a "com/example/crisp_typedef/crisptypedef/NumberText$Parts" "negative" "Z" v1 ∧ Fld Z h a "com/example/crisp_typedef/crisptypedef/NumberText$Parts" "start" "I" v2 ∧ Fld Z h a "com/example/crisp_typedef/crisptypedef/NumberText$Parts" "point" "I" v3 ∧ Fld Z h a "com/example/crisp_typedef/crisptypedef/NumberText$Parts" "end" "I" v4 ∧ Fld Z h a "com/example/crisp_typedef/crisptypedef/NumberText$Parts" "exponent" "J" v5
theorem ObP.ext {h' : Heap} {Z : State} {h : Heap} {a : Addr} {v1 v2 v3 v4 v5 : Value} (F : ObP Z h a v1 v2 v3 v4 v5) (E : Ext h h') : ObP Z h' a v1 v2 v3 v4 v5 := ⟨F.1.ext E, F.2.1.ext E, F.2.2.1.ext E, F.2.2.2.1.ext E, F.2.2.2.2.1.ext E, F.2.2.2.2.2.ext E⟩
theorem ObP.keep {h' : Heap} {Z : State} {h : Heap} {a : Addr} {v1 v2 v3 v4 v5 : Value} {ws : List Addr} (F : ObP Z h a v1 v2 v3 v4 v5) (K : Keep h h' ws) (q : a ∉ ws) : ObP Z h' a v1 v2 v3 v4 v5 := ⟨F.1.keep K, F.2.1.keep K q, F.2.2.1.keep K q, F.2.2.2.1.keep K q, F.2.2.2.2.1.keep K q, F.2.2.2.2.2.keep K q⟩
theorem ObP.oth {x : Addr} {sl : Nat} {w : Value} {h' : Heap} {Z : State} {h : Heap} {a : Addr} {v1 v2 v3 v4 v5 : Value} (F : ObP Z h a v1 v2 v3 v4 v5) (W : Wr h h' x sl w) (q : a ≠ x) : ObP Z h' a v1 v2 v3 v4 v5 := ⟨F.1.wr W, F.2.1.other W (Or.inl q), F.2.2.1.other W (Or.inl q), F.2.2.2.1.other W (Or.inl q), F.2.2.2.2.1.other W (Or.inl q), F.2.2.2.2.2.other W (Or.inl q)⟩
theorem ObP.lt {Z : State} {h : Heap} {a : Addr} {v1 v2 v3 v4 v5 : Value} (F : ObP Z h a v1 v2 v3 v4 v5) : a < h.size := F.1.lt
theorem ObP.put1 {v : Value} {h' : Heap} {Z : State} {h : Heap} {a : Addr} {v1 v2 v3 v4 v5 : Value} {a0 : Array Value} (hw : ∀ d ∈ tables_1, d.before a0 Z = true) (F : ObP Z h a v1 v2 v3 v4 v5) (W : Wr h h' a (Jvm.RoadKit.slotOf Z "com/example/crisp_typedef/crisptypedef/NumberText$Parts" "negative" "Z") v) : ObP Z h' a v v2 v3 v4 v5 := ⟨F.1.wr W, F.2.1.same W, F.2.2.1.other W (Or.inr (slot_ne (Or.inr (hw _ (List.mem_of_getElem? (i := 101) rfl))) (Or.inr (hw _ (List.mem_of_getElem? (i := 99) rfl))) (by decide) (t := .int) (t' := .boolean) (by decide) (by decide))), F.2.2.2.1.other W (Or.inr (slot_ne (Or.inr (hw _ (List.mem_of_getElem? (i := 103) rfl))) (Or.inr (hw _ (List.mem_of_getElem? (i := 99) rfl))) (by decide) (t := .int) (t' := .boolean) (by decide) (by decide))), F.2.2.2.2.1.other W (Or.inr (slot_ne (Or.inr (hw _ (List.mem_of_getElem? (i := 105) rfl))) (Or.inr (hw _ (List.mem_of_getElem? (i := 99) rfl))) (by decide) (t := .int) (t' := .boolean) (by decide) (by decide))), F.2.2.2.2.2.other W (Or.inr (slot_ne (Or.inr (hw _ (List.mem_of_getElem? (i := 107) rfl))) (Or.inr (hw _ (List.mem_of_getElem? (i := 99) rfl))) (by decide) (t := .long) (t' := .boolean) (by decide) (by decide)))⟩
theorem ObP.put2 {v : Value} {h' : Heap} {Z : State} {h : Heap} {a : Addr} {v1 v2 v3 v4 v5 : Value} {a0 : Array Value} (hw : ∀ d ∈ tables_1, d.before a0 Z = true) (F : ObP Z h a v1 v2 v3 v4 v5) (W : Wr h h' a (Jvm.RoadKit.slotOf Z "com/example/crisp_typedef/crisptypedef/NumberText$Parts" "start" "I") v) : ObP Z h' a v1 v v3 v4 v5 := ⟨F.1.wr W, F.2.1.other W (Or.inr (slot_ne (Or.inr (hw _ (List.mem_of_getElem? (i := 99) rfl))) (Or.inr (hw _ (List.mem_of_getElem? (i := 101) rfl))) (by decide) (t := .boolean) (t' := .int) (by decide) (by decide))), F.2.2.1.same W, F.2.2.2.1.other W (Or.inr (slot_ne (Or.inr (hw _ (List.mem_of_getElem? (i := 103) rfl))) (Or.inr (hw _ (List.mem_of_getElem? (i := 101) rfl))) (by decide) (t := .int) (t' := .int) (by decide) (by decide))), F.2.2.2.2.1.other W (Or.inr (slot_ne (Or.inr (hw _ (List.mem_of_getElem? (i := 105) rfl))) (Or.inr (hw _ (List.mem_of_getElem? (i := 101) rfl))) (by decide) (t := .int) (t' := .int) (by decide) (by decide))), F.2.2.2.2.2.other W (Or.inr (slot_ne (Or.inr (hw _ (List.mem_of_getElem? (i := 107) rfl))) (Or.inr (hw _ (List.mem_of_getElem? (i := 101) rfl))) (by decide) (t := .long) (t' := .int) (by decide) (by decide)))⟩
theorem ObP.put3 {v : Value} {h' : Heap} {Z : State} {h : Heap} {a : Addr} {v1 v2 v3 v4 v5 : Value} {a0 : Array Value} (hw : ∀ d ∈ tables_1, d.before a0 Z = true) (F : ObP Z h a v1 v2 v3 v4 v5) (W : Wr h h' a (Jvm.RoadKit.slotOf Z "com/example/crisp_typedef/crisptypedef/NumberText$Parts" "point" "I") v) : ObP Z h' a v1 v2 v v4 v5 := ⟨F.1.wr W, F.2.1.other W (Or.inr (slot_ne (Or.inr (hw _ (List.mem_of_getElem? (i := 99) rfl))) (Or.inr (hw _ (List.mem_of_getElem? (i := 103) rfl))) (by decide) (t := .boolean) (t' := .int) (by decide) (by decide))), F.2.2.1.other W (Or.inr (slot_ne (Or.inr (hw _ (List.mem_of_getElem? (i := 101) rfl))) (Or.inr (hw _ (List.mem_of_getElem? (i := 103) rfl))) (by decide) (t := .int) (t' := .int) (by decide) (by decide))), F.2.2.2.1.same W, F.2.2.2.2.1.other W (Or.inr (slot_ne (Or.inr (hw _ (List.mem_of_getElem? (i := 105) rfl))) (Or.inr (hw _ (List.mem_of_getElem? (i := 103) rfl))) (by decide) (t := .int) (t' := .int) (by decide) (by decide))), F.2.2.2.2.2.other W (Or.inr (slot_ne (Or.inr (hw _ (List.mem_of_getElem? (i := 107) rfl))) (Or.inr (hw _ (List.mem_of_getElem? (i := 103) rfl))) (by decide) (t := .long) (t' := .int) (by decide) (by decide)))⟩
theorem ObP.put4 {v : Value} {h' : Heap} {Z : State} {h : Heap} {a : Addr} {v1 v2 v3 v4 v5 : Value} {a0 : Array Value} (hw : ∀ d ∈ tables_1, d.before a0 Z = true) (F : ObP Z h a v1 v2 v3 v4 v5) (W : Wr h h' a (Jvm.RoadKit.slotOf Z "com/example/crisp_typedef/crisptypedef/NumberText$Parts" "end" "I") v) : ObP Z h' a v1 v2 v3 v v5 := ⟨F.1.wr W, F.2.1.other W (Or.inr (slot_ne (Or.inr (hw _ (List.mem_of_getElem? (i := 99) rfl))) (Or.inr (hw _ (List.mem_of_getElem? (i := 105) rfl))) (by decide) (t := .boolean) (t' := .int) (by decide) (by decide))), F.2.2.1.other W (Or.inr (slot_ne (Or.inr (hw _ (List.mem_of_getElem? (i := 101) rfl))) (Or.inr (hw _ (List.mem_of_getElem? (i := 105) rfl))) (by decide) (t := .int) (t' := .int) (by decide) (by decide))), F.2.2.2.1.other W (Or.inr (slot_ne (Or.inr (hw _ (List.mem_of_getElem? (i := 103) rfl))) (Or.inr (hw _ (List.mem_of_getElem? (i := 105) rfl))) (by decide) (t := .int) (t' := .int) (by decide) (by decide))), F.2.2.2.2.1.same W, F.2.2.2.2.2.other W (Or.inr (slot_ne (Or.inr (hw _ (List.mem_of_getElem? (i := 107) rfl))) (Or.inr (hw _ (List.mem_of_getElem? (i := 105) rfl))) (by decide) (t := .long) (t' := .int) (by decide) (by decide)))⟩
theorem ObP.put5 {v : Value} {h' : Heap} {Z : State} {h : Heap} {a : Addr} {v1 v2 v3 v4 v5 : Value} {a0 : Array Value} (hw : ∀ d ∈ tables_1, d.before a0 Z = true) (F : ObP Z h a v1 v2 v3 v4 v5) (W : Wr h h' a (Jvm.RoadKit.slotOf Z "com/example/crisp_typedef/crisptypedef/NumberText$Parts" "exponent" "J") v) : ObP Z h' a v1 v2 v3 v4 v := ⟨F.1.wr W, F.2.1.other W (Or.inr (slot_ne (Or.inr (hw _ (List.mem_of_getElem? (i := 99) rfl))) (Or.inr (hw _ (List.mem_of_getElem? (i := 107) rfl))) (by decide) (t := .boolean) (t' := .long) (by decide) (by decide))), F.2.2.1.other W (Or.inr (slot_ne (Or.inr (hw _ (List.mem_of_getElem? (i := 101) rfl))) (Or.inr (hw _ (List.mem_of_getElem? (i := 107) rfl))) (by decide) (t := .int) (t' := .long) (by decide) (by decide))), F.2.2.2.1.other W (Or.inr (slot_ne (Or.inr (hw _ (List.mem_of_getElem? (i := 103) rfl))) (Or.inr (hw _ (List.mem_of_getElem? (i := 107) rfl))) (by decide) (t := .int) (t' := .long) (by decide) (by decide))), F.2.2.2.2.1.other W (Or.inr (slot_ne (Or.inr (hw _ (List.mem_of_getElem? (i := 105) rfl))) (Or.inr (hw _ (List.mem_of_getElem? (i := 107) rfl))) (by decide) (t := .int) (t' := .long) (by decide) (by decide))), F.2.2.2.2.2.same W⟩
theorem ObP.new {Z : State} {h : Heap} {b : Addr} {a0 : Array Value} (hw : ∀ d ∈ tables_1, d.before a0 Z = true) (E : Exa Z h b "com/example/crisp_typedef/crisptypedef/NumberText$Parts") (D : ∀ {O nm d : String} {ty : FieldType}, Laid Z a0 "com/example/crisp_typedef/crisptypedef/NumberText$Parts" O nm d → parseFieldDescriptor d = some ty → Fld Z h b O nm d (defaultValue ty)) : ObP Z h b (.int (0 : Int32)) (.int (0 : Int32)) (.int (0 : Int32)) (.int (0 : Int32)) (.long (0 : Int64)) := ⟨E, D (Or.inr (hw _ (List.mem_of_getElem? (i := 99) rfl))) (ty := .boolean) (by decide), D (Or.inr (hw _ (List.mem_of_getElem? (i := 101) rfl))) (ty := .int) (by decide), D (Or.inr (hw _ (List.mem_of_getElem? (i := 103) rfl))) (ty := .int) (by decide), D (Or.inr (hw _ (List.mem_of_getElem? (i := 105) rfl))) (ty := .int) (by decide), D (Or.inr (hw _ (List.mem_of_getElem? (i := 107) rfl))) (ty := .long) (by decide)⟩
def ObG (Z : State) (h : Heap) (a : Addr) (v1 v2 v3 v4 v5 : Value) : Prop := Exa Z h a "com/example/crisp_typedef/crisptypedef/NumberText$Significand" ∧ Fld Z h a "com/example/crisp_typedef/crisptypedef/NumberText$Significand" "negative" "Z" v1 ∧ Fld Z h a "com/example/crisp_typedef/crisptypedef/NumberText$Significand" "first" "I" v2 ∧ Fld Z h a "com/example/crisp_typedef/crisptypedef/NumberText$Significand" "last" "I" v3 ∧ Fld Z h a "com/example/crisp_typedef/crisptypedef/NumberText$Significand" "point" "I" v4 ∧ Fld Z h a "com/example/crisp_typedef/crisptypedef/NumberText$Significand" "power" "J" v5
theorem ObG.ext {h' : Heap} {Z : State} {h : Heap} {a : Addr} {v1 v2 v3 v4 v5 : Value} (F : ObG Z h a v1 v2 v3 v4 v5) (E : Ext h h') : ObG Z h' a v1 v2 v3 v4 v5 := ⟨F.1.ext E, F.2.1.ext E, F.2.2.1.ext E, F.2.2.2.1.ext E, F.2.2.2.2.1.ext E, F.2.2.2.2.2.ext E⟩
theorem ObG.keep {h' : Heap} {Z : State} {h : Heap} {a : Addr} {v1 v2 v3 v4 v5 : Value} {ws : List Addr} (F : ObG Z h a v1 v2 v3 v4 v5) (K : Keep h h' ws) (q : a ∉ ws) : ObG Z h' a v1 v2 v3 v4 v5 := ⟨F.1.keep K, F.2.1.keep K q, F.2.2.1.keep K q, F.2.2.2.1.keep K q, F.2.2.2.2.1.keep K q, F.2.2.2.2.2.keep K q⟩
theorem ObG.oth {x : Addr} {sl : Nat} {w : Value} {h' : Heap} {Z : State} {h : Heap} {a : Addr} {v1 v2 v3 v4 v5 : Value} (F : ObG Z h a v1 v2 v3 v4 v5) (W : Wr h h' x sl w) (q : a ≠ x) : ObG Z h' a v1 v2 v3 v4 v5 := ⟨F.1.wr W, F.2.1.other W (Or.inl q), F.2.2.1.other W (Or.inl q), F.2.2.2.1.other W (Or.inl q), F.2.2.2.2.1.other W (Or.inl q), F.2.2.2.2.2.other W (Or.inl q)⟩
theorem ObG.lt {Z : State} {h : Heap} {a : Addr} {v1 v2 v3 v4 v5 : Value} (F : ObG Z h a v1 v2 v3 v4 v5) : a < h.size := F.1.lt
theorem ObG.put1 {v : Value} {h' : Heap} {Z : State} {h : Heap} {a : Addr} {v1 v2 v3 v4 v5 : Value} {a0 : Array Value} (hw : ∀ d ∈ tables_1, d.before a0 Z = true) (F : ObG Z h a v1 v2 v3 v4 v5) (W : Wr h h' a (Jvm.RoadKit.slotOf Z "com/example/crisp_typedef/crisptypedef/NumberText$Significand" "negative" "Z") v) : ObG Z h' a v v2 v3 v4 v5 := ⟨F.1.wr W, F.2.1.same W, F.2.2.1.other W (Or.inr (slot_ne (Or.inr (hw _ (List.mem_of_getElem? (i := 146) rfl))) (Or.inr (hw _ (List.mem_of_getElem? (i := 144) rfl))) (by decide) (t := .int) (t' := .boolean) (by decide) (by decide))), F.2.2.2.1.other W (Or.inr (slot_ne (Or.inr (hw _ (List.mem_of_getElem? (i := 148) rfl))) (Or.inr (hw _ (List.mem_of_getElem? (i := 144) rfl))) (by decide) (t := .int) (t' := .boolean) (by decide) (by decide))), F.2.2.2.2.1.other W (Or.inr (slot_ne (Or.inr (hw _ (List.mem_of_getElem? (i := 150) rfl))) (Or.inr (hw _ (List.mem_of_getElem? (i := 144) rfl))) (by decide) (t := .int) (t' := .boolean) (by decide) (by decide))), F.2.2.2.2.2.other W (Or.inr (slot_ne (Or.inr (hw _ (List.mem_of_getElem? (i := 152) rfl))) (Or.inr (hw _ (List.mem_of_getElem? (i := 144) rfl))) (by decide) (t := .long) (t' := .boolean) (by decide) (by decide)))⟩
theorem ObG.put2 {v : Value} {h' : Heap} {Z : State} {h : Heap} {a : Addr} {v1 v2 v3 v4 v5 : Value} {a0 : Array Value} (hw : ∀ d ∈ tables_1, d.before a0 Z = true) (F : ObG Z h a v1 v2 v3 v4 v5) (W : Wr h h' a (Jvm.RoadKit.slotOf Z "com/example/crisp_typedef/crisptypedef/NumberText$Significand" "first" "I") v) : ObG Z h' a v1 v v3 v4 v5 := ⟨F.1.wr W, F.2.1.other W (Or.inr (slot_ne (Or.inr (hw _ (List.mem_of_getElem? (i := 144) rfl))) (Or.inr (hw _ (List.mem_of_getElem? (i := 146) rfl))) (by decide) (t := .boolean) (t' := .int) (by decide) (by decide))), F.2.2.1.same W, F.2.2.2.1.other W (Or.inr (slot_ne (Or.inr (hw _ (List.mem_of_getElem? (i := 148) rfl))) (Or.inr (hw _ (List.mem_of_getElem? (i := 146) rfl))) (by decide) (t := .int) (t' := .int) (by decide) (by decide))), F.2.2.2.2.1.other W (Or.inr (slot_ne (Or.inr (hw _ (List.mem_of_getElem? (i := 150) rfl))) (Or.inr (hw _ (List.mem_of_getElem? (i := 146) rfl))) (by decide) (t := .int) (t' := .int) (by decide) (by decide))), F.2.2.2.2.2.other W (Or.inr (slot_ne (Or.inr (hw _ (List.mem_of_getElem? (i := 152) rfl))) (Or.inr (hw _ (List.mem_of_getElem? (i := 146) rfl))) (by decide) (t := .long) (t' := .int) (by decide) (by decide)))⟩
theorem ObG.put3 {v : Value} {h' : Heap} {Z : State} {h : Heap} {a : Addr} {v1 v2 v3 v4 v5 : Value} {a0 : Array Value} (hw : ∀ d ∈ tables_1, d.before a0 Z = true) (F : ObG Z h a v1 v2 v3 v4 v5) (W : Wr h h' a (Jvm.RoadKit.slotOf Z "com/example/crisp_typedef/crisptypedef/NumberText$Significand" "last" "I") v) : ObG Z h' a v1 v2 v v4 v5 := ⟨F.1.wr W, F.2.1.other W (Or.inr (slot_ne (Or.inr (hw _ (List.mem_of_getElem? (i := 144) rfl))) (Or.inr (hw _ (List.mem_of_getElem? (i := 148) rfl))) (by decide) (t := .boolean) (t' := .int) (by decide) (by decide))), F.2.2.1.other W (Or.inr (slot_ne (Or.inr (hw _ (List.mem_of_getElem? (i := 146) rfl))) (Or.inr (hw _ (List.mem_of_getElem? (i := 148) rfl))) (by decide) (t := .int) (t' := .int) (by decide) (by decide))), F.2.2.2.1.same W, F.2.2.2.2.1.other W (Or.inr (slot_ne (Or.inr (hw _ (List.mem_of_getElem? (i := 150) rfl))) (Or.inr (hw _ (List.mem_of_getElem? (i := 148) rfl))) (by decide) (t := .int) (t' := .int) (by decide) (by decide))), F.2.2.2.2.2.other W (Or.inr (slot_ne (Or.inr (hw _ (List.mem_of_getElem? (i := 152) rfl))) (Or.inr (hw _ (List.mem_of_getElem? (i := 148) rfl))) (by decide) (t := .long) (t' := .int) (by decide) (by decide)))⟩
theorem ObG.put4 {v : Value} {h' : Heap} {Z : State} {h : Heap} {a : Addr} {v1 v2 v3 v4 v5 : Value} {a0 : Array Value} (hw : ∀ d ∈ tables_1, d.before a0 Z = true) (F : ObG Z h a v1 v2 v3 v4 v5) (W : Wr h h' a (Jvm.RoadKit.slotOf Z "com/example/crisp_typedef/crisptypedef/NumberText$Significand" "point" "I") v) : ObG Z h' a v1 v2 v3 v v5 := ⟨F.1.wr W, F.2.1.other W (Or.inr (slot_ne (Or.inr (hw _ (List.mem_of_getElem? (i := 144) rfl))) (Or.inr (hw _ (List.mem_of_getElem? (i := 150) rfl))) (by decide) (t := .boolean) (t' := .int) (by decide) (by decide))), F.2.2.1.other W (Or.inr (slot_ne (Or.inr (hw _ (List.mem_of_getElem? (i := 146) rfl))) (Or.inr (hw _ (List.mem_of_getElem? (i := 150) rfl))) (by decide) (t := .int) (t' := .int) (by decide) (by decide))), F.2.2.2.1.other W (Or.inr (slot_ne (Or.inr (hw _ (List.mem_of_getElem? (i := 148) rfl))) (Or.inr (hw _ (List.mem_of_getElem? (i := 150) rfl))) (by decide) (t := .int) (t' := .int) (by decide) (by decide))), F.2.2.2.2.1.same W, F.2.2.2.2.2.other W (Or.inr (slot_ne (Or.inr (hw _ (List.mem_of_getElem? (i := 152) rfl))) (Or.inr (hw _ (List.mem_of_getElem? (i := 150) rfl))) (by decide) (t := .long) (t' := .int) (by decide) (by decide)))⟩
theorem ObG.put5 {v : Value} {h' : Heap} {Z : State} {h : Heap} {a : Addr} {v1 v2 v3 v4 v5 : Value} {a0 : Array Value} (hw : ∀ d ∈ tables_1, d.before a0 Z = true) (F : ObG Z h a v1 v2 v3 v4 v5) (W : Wr h h' a (Jvm.RoadKit.slotOf Z "com/example/crisp_typedef/crisptypedef/NumberText$Significand" "power" "J") v) : ObG Z h' a v1 v2 v3 v4 v := ⟨F.1.wr W, F.2.1.other W (Or.inr (slot_ne (Or.inr (hw _ (List.mem_of_getElem? (i := 144) rfl))) (Or.inr (hw _ (List.mem_of_getElem? (i := 152) rfl))) (by decide) (t := .boolean) (t' := .long) (by decide) (by decide))), F.2.2.1.other W (Or.inr (slot_ne (Or.inr (hw _ (List.mem_of_getElem? (i := 146) rfl))) (Or.inr (hw _ (List.mem_of_getElem? (i := 152) rfl))) (by decide) (t := .int) (t' := .long) (by decide) (by decide))), F.2.2.2.1.other W (Or.inr (slot_ne (Or.inr (hw _ (List.mem_of_getElem? (i := 148) rfl))) (Or.inr (hw _ (List.mem_of_getElem? (i := 152) rfl))) (by decide) (t := .int) (t' := .long) (by decide) (by decide))), F.2.2.2.2.1.other W (Or.inr (slot_ne (Or.inr (hw _ (List.mem_of_getElem? (i := 150) rfl))) (Or.inr (hw _ (List.mem_of_getElem? (i := 152) rfl))) (by decide) (t := .int) (t' := .long) (by decide) (by decide))), F.2.2.2.2.2.same W⟩
theorem ObG.new {Z : State} {h : Heap} {b : Addr} {a0 : Array Value} (hw : ∀ d ∈ tables_1, d.before a0 Z = true) (E : Exa Z h b "com/example/crisp_typedef/crisptypedef/NumberText$Significand") (D : ∀ {O nm d : String} {ty : FieldType}, Laid Z a0 "com/example/crisp_typedef/crisptypedef/NumberText$Significand" O nm d → parseFieldDescriptor d = some ty → Fld Z h b O nm d (defaultValue ty)) : ObG Z h b (.int (0 : Int32)) (.int (0 : Int32)) (.int (0 : Int32)) (.int (0 : Int32)) (.long (0 : Int64)) := ⟨E, D (Or.inr (hw _ (List.mem_of_getElem? (i := 144) rfl))) (ty := .boolean) (by decide), D (Or.inr (hw _ (List.mem_of_getElem? (i := 146) rfl))) (ty := .int) (by decide), D (Or.inr (hw _ (List.mem_of_getElem? (i := 148) rfl))) (ty := .int) (by decide), D (Or.inr (hw _ (List.mem_of_getElem? (i := 150) rfl))) (ty := .int) (by decide), D (Or.inr (hw _ (List.mem_of_getElem? (i := 152) rfl))) (ty := .long) (by decide)⟩

def own_ch (d0 d1 d2 d3 d4 : Int32) : Nat → Int32
  | 0 => d0 | 1 => d1 | 2 => d2 | 3 => d3 | _ => d4
def own_T (Z : State) (h : Heap) (mm : Nat) (tx : Addr) (n : Int32) (ch : Nat → Int32) : Prop := ∃ (b : Addr) (cB : ClassId) (bs : Nat → Int32), tx < mm ∧ b < mm ∧ mm ≤ h.size ∧ 1 ≤ n.toInt ∧ n.toInt ≤ 5 ∧ ObT Z h tx (.int (0 : Int32)) (.ref b) ∧ Arx Z h b cB .byte n ((List.range n.toNatClampNeg).map fun j => .int (bs j)) (.int (0 : Int32)) "[B" ∧ ∀ j, j < n.toNatClampNeg → (bs j &&& (255 : Int32)) = ch j ∧ 0 ≤ (ch j).toInt ∧ (ch j).toInt ≤ 255
section TxtS
variable {Z : State} {h h' : Heap} {mm : Nat} {tx a : Addr} {n : Int32} {ch : Nat → Int32} {sl : Nat} {v : Value} {ws : List Addr}
theorem own_T.ext (T : own_T Z h mm tx n ch) (E : Ext h h') : own_T Z h' mm tx n ch := by
  obtain ⟨b, cB, bs, h1, h2, h3, h4, h5, O, A, q⟩ := T
  exact ⟨b, cB, bs, h1, h2, Nat.le_trans h3 E.1, h4, h5, O.ext E, A.ext E, q⟩
theorem own_T.keep (T : own_T Z h mm tx n ch) (K : Keep h h' ws) (hw : ∀ y ∈ ws, mm ≤ y) : own_T Z h' mm tx n ch := by
  obtain ⟨b, cB, bs, h1, h2, h3, h4, h5, O, A, q⟩ := T
  exact ⟨b, cB, bs, h1, h2, Nat.le_trans h3 K.1, h4, h5, O.keep K (fun y => absurd h1 (Nat.not_lt.mpr (hw _ y))), A.keep K (fun y => absurd h2 (Nat.not_lt.mpr (hw _ y))), q⟩
theorem own_Tx (T : own_T Z h mm tx n ch) : Exa Z h tx "java/lang/String" ∧ True := by
  obtain ⟨b, cB, bs, h1, h2, h3, h4, h5, O, -⟩ := T
  exact ⟨O.1, trivial⟩
theorem own_Tn (T : own_T Z h mm tx n ch) : mm ≤ h.size ∧ 1 ≤ n.toInt ∧ n.toInt ≤ 5 ∧ ∀ j, j < n.toNatClampNeg → 0 ≤ (ch j).toInt ∧ (ch j).toInt ≤ 255 := by
  obtain ⟨b, cB, bs, h1, h2, h3, h4, h5, O, A, q⟩ := T
  exact ⟨h3, h4, h5, fun j hj => (q j hj).2⟩
end TxtS
theorem own_sh0 (n : Int32) : (n >>> ((0 : Int32) &&& 31)) = n := Int32.toInt_inj.mp (by have e : (n >>> ((0 : Int32) &&& 31)).toInt = n.toInt / 1 := c_ishr n (0 : Int32) 0 (by decide); omega)
theorem own_cc {c : Int32} (h0 : 0 ≤ c.toInt) (h1 : c.toInt ≤ 255) : nar .char c = c := Int32.toInt_inj.mp (by
  have e : ((nar .char c).toInt - c.toInt) % 65536 = 0 ∧ 0 ≤ (nar .char c).toInt ∧ (nar .char c).toInt < 65536 := c_i2c c
  omega)
theorem own_cc2 {c : Int32} (h0 : 0 ≤ c.toInt) (h1 : c.toInt ≤ 255) : nar .char ((c).toUInt32.toUInt16.toUInt32.toInt32) = c := by
  have e2 : (c).toUInt32.toUInt16.toUInt32.toInt32 = c := Int32.toInt_inj.mp (by have e := c_i2c c; omega)
  rw [e2]; exact own_cc h0 h1
theorem own_bsg {bs : Nat → Int32} {n : Nat} {j : Nat} (q : j < n) (dv : Value) : ((List.range n).map fun j => Value.int (bs j)).getD j dv = .int (bs j) := by
  simp [List.getD_eq_getElem?_getD, List.getElem?_map, List.getElem?_range q]
theorem own_ixz {z r : Int32} (r0 : ¬ r < (0 : Int32)) (r1 : r < z) : r.toNatClampNeg < z.toNatClampNeg := by
  have h1 : ¬ r.toInt < (0 : Int32).toInt := fun q => r0 (Int32.lt_iff_toInt_lt.mpr q)
  have h2 := Int32.lt_iff_toInt_lt.mp r1
  have e0 : (0 : Int32).toInt = 0 := rfl
  simp only [Int32.toNatClampNeg]
  omega

theorem d12_0 : Dc jdk_42_method_152_code 0 (.getstatic 38) 3 3 := ⟨by decide +kernel, rfl⟩
theorem d12_3 : Bi jdk_42_method_152_code 3 (Instr.ifCond .eq) 13 6 := ⟨10, by decide +kernel, by decide, by decide, rfl⟩
theorem d12_6 : Dc jdk_42_method_152_code 6 (.aload_n 0) 1 7 := ⟨by decide +kernel, rfl⟩
theorem d12_7 : Dc jdk_42_method_152_code 7 (.getfield 15) 3 10 := ⟨by decide +kernel, rfl⟩
theorem d12_10 : Bi jdk_42_method_152_code 10 (Instr.goto) 14 13 := ⟨4, by decide +kernel, by decide, by decide, rfl⟩
theorem d12_14 : Dc jdk_42_method_152_code 14 (.ireturn) 1 15 := ⟨by decide +kernel, rfl⟩
theorem pn_rmcoder : plainName "java/lang/String" = true := by first | (simp [plainName, overriddenIn]; done) | decide +kernel
set_option maxRecDepth 65536 in
set_option maxHeartbeats 40000000 in
theorem rmcoder (l : Launch) (Z : State) (a0 : Array Value) (hw : ∀ d ∈ tables_1, d.before a0 Z = true) (cs : Int32) (SCS : Sta Z Z.heap "java/lang/String" "COMPACT_STRINGS" "Z" (.int cs)) (hcs : ¬ cs = (0 : Int32)) (tx b : Addr) (h0 : Heap) (O_tx : ObT Z h0 tx (.int (0 : Int32)) (.ref b)) (OL : Old Z Z.heap.size h0) :
    Met l Z (⟨"java/lang/String", "coder", "()B"⟩ : MethodName) jdk_42_method_152_code 1 (some .byte) ({ frames := 0, cells := 0, slots := 0, locals := 0 } : Room) #[(.ref tx)] h0 (fun v h' => v = some (.int (0 : Int32)) ∧ h0 = h') := by
  refine met_of (Ls := #[.val (.ref tx)]) (plainFor_of_name pn_rmcoder) (fun m => by first | (simp [entryFrame, mkF, argsToLocals, Value.category]; done) | rfl) (fun p e s m below meth c cx => ?_)
  refine g_getS cx d12_0 (host := "") (Or.inl (hw _ (List.mem_of_getElem? (i := 21) rfl))) Via.refl (SCS.ext OL.2) ?_
  refine g_if_eq cx d12_3 (fun q => absurd q (fun q => hcs q)) (fun hc3 => ?_)
  refine g_aloadN cx d12_6 rfl rfl ?_
  refine g_getF cx d12_7 (host := "") (Or.inl (hw _ (List.mem_of_getElem? (i := 33) rfl))) Via.refl O_tx.2.1 ?_
  refine g_goto cx d12_10 ?_
  refine g_retN cx d12_14 (t := .byte) rfl (by simp) (by decide) (by decide) ?_
  exact ⟨rfl, rfl⟩
theorem d14_0 : Dc jdk_42_method_154_code 0 (.getstatic 38) 3 3 := ⟨by decide +kernel, rfl⟩
theorem d14_3 : Bi jdk_42_method_154_code 3 (Instr.ifCond .eq) 17 6 := ⟨14, by decide +kernel, by decide, by decide, rfl⟩
theorem d14_6 : Dc jdk_42_method_154_code 6 (.aload_n 0) 1 7 := ⟨by decide +kernel, rfl⟩
theorem d14_7 : Dc jdk_42_method_154_code 7 (.getfield 15) 3 10 := ⟨by decide +kernel, rfl⟩
theorem d14_10 : Bi jdk_42_method_154_code 10 (Instr.ifCond .ne) 17 13 := ⟨7, by decide +kernel, by decide, by decide, rfl⟩
theorem d14_13 : Dc jdk_42_method_154_code 13 (.iconst 1) 1 14 := ⟨by decide +kernel, rfl⟩
theorem d14_14 : Bi jdk_42_method_154_code 14 (Instr.goto) 18 17 := ⟨4, by decide +kernel, by decide, by decide, rfl⟩
theorem d14_18 : Dc jdk_42_method_154_code 18 (.ireturn) 1 19 := ⟨by decide +kernel, rfl⟩
theorem pn_rmisLatin1 : plainName "java/lang/String" = true := by first | (simp [plainName, overriddenIn]; done) | decide +kernel
set_option maxRecDepth 65536 in
set_option maxHeartbeats 40000000 in
theorem rmisLatin1 (l : Launch) (Z : State) (a0 : Array Value) (hw : ∀ d ∈ tables_1, d.before a0 Z = true) (cs : Int32) (SCS : Sta Z Z.heap "java/lang/String" "COMPACT_STRINGS" "Z" (.int cs)) (hcs : ¬ cs = (0 : Int32)) (tx b : Addr) (h0 : Heap) (O_tx : ObT Z h0 tx (.int (0 : Int32)) (.ref b)) (OL : Old Z Z.heap.size h0) :
    Met l Z (⟨"java/lang/String", "isLatin1", "()Z"⟩ : MethodName) jdk_42_method_154_code 1 (some .boolean) ({ frames := 0, cells := 0, slots := 0, locals := 0 } : Room) #[(.ref tx)] h0 (fun v h' => v = some (.int (1 : Int32)) ∧ h0 = h') := by
  refine met_of (Ls := #[.val (.ref tx)]) (plainFor_of_name pn_rmisLatin1) (fun m => by first | (simp [entryFrame, mkF, argsToLocals, Value.category]; done) | rfl) (fun p e s m below meth c cx => ?_)
  refine g_getS cx d14_0 (host := "") (Or.inl (hw _ (List.mem_of_getElem? (i := 21) rfl))) Via.refl (SCS.ext OL.2) ?_
  refine g_if_eq cx d14_3 (fun q => absurd q (fun q => hcs q)) (fun hc3 => ?_)
  refine g_aloadN cx d14_6 rfl rfl ?_
  refine g_getF cx d14_7 (host := "") (Or.inl (hw _ (List.mem_of_getElem? (i := 33) rfl))) Via.refl O_tx.2.1 ?_
  refine g_if_ne cx d14_10 (fun q => absurd q (fun q => by revert q; decide)) (fun hc10 => ?_)
  refine g_iconst cx d14_13 (v := (1 : Int32)) rfl ?_
  refine g_goto cx d14_14 ?_
  refine g_retZ cx d14_18 rfl rfl (by decide) (by decide) ?_
  exact ⟨rfl, rfl⟩
theorem d11_0 : Dc jdk_42_method_54_code 0 (.aload_n 0) 1 1 := ⟨by decide +kernel, rfl⟩
theorem d11_1 : Dc jdk_42_method_54_code 1 (.getfield 9) 3 4 := ⟨by decide +kernel, rfl⟩
theorem d11_4 : Dc jdk_42_method_54_code 4 (.arraylength) 1 5 := ⟨by decide +kernel, rfl⟩
theorem d11_5 : Dc jdk_42_method_54_code 5 (.aload_n 0) 1 6 := ⟨by decide +kernel, rfl⟩
theorem pd_0 : parseMethodDescriptor "()B" = some ⟨[], some .byte⟩ := by decide +kernel
theorem d11_6 : Dc jdk_42_method_54_code 6 (.invokevirtual 335) 3 9 := ⟨by decide +kernel, rfl⟩
theorem d11_9 : Dc jdk_42_method_54_code 9 (.ishr) 1 10 := ⟨by decide +kernel, rfl⟩
theorem d11_10 : Dc jdk_42_method_54_code 10 (.ireturn) 1 11 := ⟨by decide +kernel, rfl⟩
theorem pn_rmln : plainName "java/lang/String" = true := by first | (simp [plainName, overriddenIn]; done) | decide +kernel
set_option maxRecDepth 65536 in
set_option maxHeartbeats 40000000 in
theorem rmln (l : Launch) (Z : State) (a0 : Array Value) (hw : ∀ d ∈ tables_1, d.before a0 Z = true) (cs : Int32) (SCS : Sta Z Z.heap "java/lang/String" "COMPACT_STRINGS" "Z" (.int cs)) (hcs : ¬ cs = (0 : Int32)) (mm : Nat) (tx : Addr) (n : Int32) (ch : Nat → Int32) (h0 : Heap) (TT : own_T Z h0 mm tx n ch) (OL : Old Z Z.heap.size h0) :
    Met l Z (⟨"java/lang/String", "length", "()I"⟩ : MethodName) jdk_42_method_54_code 1 (some .int) ({ frames := 1, cells := 0, slots := 0, locals := 13 } : Room) #[(.ref tx)] h0 (fun v h' => v = some (.int n) ∧ h0 = h') := by
  refine met_of (Ls := #[.val (.ref tx)]) (plainFor_of_name pn_rmln) (fun m => by first | (simp [entryFrame, mkF, argsToLocals, Value.category]; done) | rfl) (fun p e s m below meth c cx => ?_)
  obtain ⟨b, cB, bs, hx1, hx2, hx3, n1, n5, O_tx, A_b, hb⟩ := TT
  refine g_aloadN cx d11_0 rfl rfl ?_
  refine g_getF cx d11_1 (host := "") (Or.inl (hw _ (List.mem_of_getElem? (i := 35) rfl))) Via.refl O_tx.2.2 ?_
  refine g_arraylength cx d11_4 A_b.1 ?_
  refine g_aloadN cx d11_5 rfl rfl ?_
  refine g_virtual cx (y := (⟨"java/lang/String", "coder", "()B"⟩ : MethodName)) (z := (⟨"java/lang/String", "coder", "()B"⟩ : MethodName)) (a := tx) d11_6 (hw _ (List.mem_of_getElem? (i := 53) rfl)) (hw _ (List.mem_of_getElem? (i := 54) rfl)) (hw _ (List.mem_of_getElem? (i := 10) rfl)) (hw _ (List.mem_of_getElem? (i := 57) rfl)) (hw _ (List.mem_of_getElem? (i := 56) rfl)) (hw _ (List.mem_of_getElem? (i := 55) rfl)) rfl (by decide) O_tx.1 (bytes := jdk_42_method_152_code) (maxL' := 1) (M := (rmcoder l Z a0 hw cs SCS hcs tx b _ O_tx OL)) rfl (lenOf pd_0 rfl) (by decide) (W := 1) (Nat.le_of_eq rfl) (by decide) (k' := 0) (n' := 0) rfl rfl (by decide) (by decide) (argsL := []) (rest := [(.int n)]) rfl (fun v2 h1 q3 => ?_)
  obtain ⟨rfl, rfl⟩ := q3
  refine G.cast (st' := [(.int (0 : Int32)), (.int n)]) ?_ rfl
  refine g_ishr cx d11_9 ?_
  refine g_retI cx d11_10 rfl (by decide) (by decide) ?_
  exact ⟨by rw [own_sh0], rfl⟩
theorem d17_0 : Dc jdk_41_method_11_code 0 (.iload_n 0) 1 1 := ⟨by decide +kernel, rfl⟩
theorem d17_1 : Bi jdk_41_method_11_code 1 (Instr.ifCond .lt) 9 4 := ⟨8, by decide +kernel, by decide, by decide, rfl⟩
theorem d17_4 : Dc jdk_41_method_11_code 4 (.iload_n 0) 1 5 := ⟨by decide +kernel, rfl⟩
theorem d17_5 : Dc jdk_41_method_11_code 5 (.iload_n 1) 1 6 := ⟨by decide +kernel, rfl⟩
theorem d17_6 : Bi jdk_41_method_11_code 6 (Instr.if_icmp .lt) 16 9 := ⟨10, by decide +kernel, by decide, by decide, rfl⟩
theorem d17_16 : Dc jdk_41_method_11_code 16 (.iload_n 0) 1 17 := ⟨by decide +kernel, rfl⟩
theorem d17_17 : Dc jdk_41_method_11_code 17 (.ireturn) 1 18 := ⟨by decide +kernel, rfl⟩
theorem pn_rmckN : plainName "jdk/internal/util/Preconditions" = true := by first | (simp [plainName, overriddenIn]; done) | decide +kernel
set_option maxRecDepth 65536 in
set_option maxHeartbeats 40000000 in
theorem rmckN (l : Launch) (Z : State) (a0 : Array Value) (hw : ∀ d ∈ tables_1, d.before a0 Z = true) (i n : Int32) (i0 : ¬ i < (0 : Int32)) (i1 : i < n) (h0 : Heap) :
    Met l Z (⟨"jdk/internal/util/Preconditions", "checkIndex", "(IILjava/util/function/BiFunction;)I"⟩ : MethodName) jdk_41_method_11_code 3 (some .int) ({ frames := 0, cells := 0, slots := 0, locals := 0 } : Room) #[(.int i), (.int n), .null] h0 (fun v h' => v = some (.int i) ∧ h0 = h') := by
  refine met_of (Ls := #[.val (.int i), .val (.int n), .val .null]) (plainFor_of_name pn_rmckN) (fun m => by first | (simp [entryFrame, mkF, argsToLocals, Value.category]; done) | rfl) (fun p e s m below meth c cx => ?_)
  refine g_iloadN cx d17_0 rfl ?_
  refine g_if_lt cx d17_1 (fun q => absurd q (fun q => i0 q)) (fun hc1 => ?_)
  refine g_iloadN cx d17_4 rfl ?_
  refine g_iloadN cx d17_5 rfl ?_
  refine g_icmp_lt cx d17_6 (fun hc6 => ?_) (fun q => absurd q (fun q => q i1))
  refine g_iloadN cx d17_16 rfl ?_
  refine g_retI cx d17_17 rfl (by decide) (by decide) ?_
  exact ⟨rfl, rfl⟩
theorem pn_rmckR : plainName "jdk/internal/util/Preconditions" = true := by first | (simp [plainName, overriddenIn]; done) | decide +kernel
set_option maxRecDepth 65536 in
set_option maxHeartbeats 40000000 in
theorem rmckR (l : Launch) (Z : State) (a0 : Array Value) (hw : ∀ d ∈ tables_1, d.before a0 Z = true) (fa : Addr) (i n : Int32) (i0 : ¬ i < (0 : Int32)) (i1 : i < n) (h0 : Heap) :
    Met l Z (⟨"jdk/internal/util/Preconditions", "checkIndex", "(IILjava/util/function/BiFunction;)I"⟩ : MethodName) jdk_41_method_11_code 3 (some .int) ({ frames := 0, cells := 0, slots := 0, locals := 0 } : Room) #[(.int i), (.int n), (.ref fa)] h0 (fun v h' => v = some (.int i) ∧ h0 = h') := by
  refine met_of (Ls := #[.val (.int i), .val (.int n), .val (.ref fa)]) (plainFor_of_name pn_rmckR) (fun m => by first | (simp [entryFrame, mkF, argsToLocals, Value.category]; done) | rfl) (fun p e s m below meth c cx => ?_)
  refine g_iloadN cx d17_0 rfl ?_
  refine g_if_lt cx d17_1 (fun q => absurd q (fun q => i0 q)) (fun hc1 => ?_)
  refine g_iloadN cx d17_4 rfl ?_
  refine g_iloadN cx d17_5 rfl ?_
  refine g_icmp_lt cx d17_6 (fun hc6 => ?_) (fun q => absurd q (fun q => q i1))
  refine g_iloadN cx d17_16 rfl ?_
  refine g_retI cx d17_17 rfl (by decide) (by decide) ?_
  exact ⟨rfl, rfl⟩
theorem rmck (l : Launch) (Z : State) (a0 : Array Value) (hw : ∀ d ∈ tables_1, d.before a0 Z = true) (fv : Value) (hfv : fv = .null ∨ ∃ fa, fv = .ref fa) (i n : Int32) (i0 : ¬ i < (0 : Int32)) (i1 : i < n) (h0 : Heap) :
    Met l Z (⟨"jdk/internal/util/Preconditions", "checkIndex", "(IILjava/util/function/BiFunction;)I"⟩ : MethodName) jdk_41_method_11_code 3 (some .int) ({ frames := 0, cells := 0, slots := 0, locals := 0 } : Room) #[(.int i), (.int n), fv] h0 (fun v h' => v = some (.int i) ∧ h0 = h') := by
  rcases hfv with rfl | ⟨fa, rfl⟩
  · exact rmckN l Z a0 hw i n i0 i1 h0
  · exact rmckR l Z a0 hw fa i n i0 i1 h0
theorem d16_0 : Dc jdk_42_method_155_code 0 (.iload_n 0) 1 1 := ⟨by decide +kernel, rfl⟩
theorem d16_1 : Dc jdk_42_method_155_code 1 (.iload_n 1) 1 2 := ⟨by decide +kernel, rfl⟩
theorem d16_2 : Dc jdk_42_method_155_code 2 (.getstatic 1053) 3 5 := ⟨by decide +kernel, rfl⟩
theorem pd_1 : parseMethodDescriptor "(IILjava/util/function/BiFunction;)I" = some ⟨[.int, .int, (.object "java/util/function/BiFunction")], some .int⟩ := by decide +kernel
theorem d16_5 : Dc jdk_42_method_155_code 5 (.invokestatic 1059) 3 8 := ⟨by decide +kernel, rfl⟩
theorem d16_8 : Dc jdk_42_method_155_code 8 (.pop) 1 9 := ⟨by decide +kernel, rfl⟩
theorem d16_9 : Dc jdk_42_method_155_code 9 (.return_) 1 10 := ⟨by decide +kernel, rfl⟩
theorem pn_rmck2 : plainName "java/lang/String" = true := by first | (simp [plainName, overriddenIn]; done) | decide +kernel
set_option maxRecDepth 65536 in
set_option maxHeartbeats 40000000 in
theorem rmck2 (l : Launch) (Z : State) (a0 : Array Value) (hw : ∀ d ∈ tables_1, d.before a0 Z = true) (fv : Value) (hfv : fv = .null ∨ ∃ fa, fv = .ref fa) (SFV : Sta Z Z.heap "jdk/internal/util/Preconditions" "SIOOBE_FORMATTER" "Ljava/util/function/BiFunction;" fv) (i n : Int32) (i0 : ¬ i < (0 : Int32)) (i1 : i < n) (h0 : Heap) (OL : Old Z Z.heap.size h0) :
    Met l Z (⟨"java/lang/String", "checkIndex", "(II)V"⟩ : MethodName) jdk_42_method_155_code 2 none ({ frames := 1, cells := 0, slots := 0, locals := 14 } : Room) #[(.int i), (.int n)] h0 (fun v h' => v = none ∧ h0 = h') := by
  refine met_of (Ls := #[.val (.int i), .val (.int n)]) (plainFor_of_name pn_rmck2) (fun m => by first | (simp [entryFrame, mkF, argsToLocals, Value.category]; done) | rfl) (fun p e s m below meth c cx => ?_)
  refine g_iloadN cx d16_0 rfl ?_
  refine g_iloadN cx d16_1 rfl ?_
  refine g_getS cx d16_2 (host := "") (Or.inl (hw _ (List.mem_of_getElem? (i := 78) rfl))) Via.refl (SFV.ext OL.2) ?_
  refine g_static cx (y := (⟨"jdk/internal/util/Preconditions", "checkIndex", "(IILjava/util/function/BiFunction;)I"⟩ : MethodName)) d16_5 (hw _ (List.mem_of_getElem? (i := 80) rfl)) (hw _ (List.mem_of_getElem? (i := 81) rfl)) (hw _ (List.mem_of_getElem? (i := 79) rfl)) (hw _ (List.mem_of_getElem? (i := 82) rfl)) (by decide) (bytes := jdk_41_method_11_code) (maxL' := 3) (M := (rmck l Z a0 hw fv hfv i n i0 i1 _)) rfl (lenOf pd_1 rfl) (by decide) (W := 0) (Nat.le_of_eq rfl) (by decide) (k' := 0) (n' := 0) rfl rfl (by decide) (by decide) (argsL := [(.int i), (.int n), fv]) (rest := []) rfl (fun v2 h1 q3 => ?_)
  obtain ⟨rfl, rfl⟩ := q3
  refine G.cast (st' := [(.int i)]) ?_ rfl
  refine g_pop cx d16_8 rfl ?_
  refine g_retV cx d16_9 rfl (by decide) (by decide) ?_
  exact ⟨rfl, rfl⟩
theorem d15_0 : Dc jdk_43_method_2_code 0 (.iload_n 1) 1 1 := ⟨by decide +kernel, rfl⟩
theorem d15_1 : Dc jdk_43_method_2_code 1 (.aload_n 0) 1 2 := ⟨by decide +kernel, rfl⟩
theorem d15_2 : Dc jdk_43_method_2_code 2 (.arraylength) 1 3 := ⟨by decide +kernel, rfl⟩
theorem pd_2 : parseMethodDescriptor "(II)V" = some ⟨[.int, .int], none⟩ := by decide +kernel
theorem d15_3 : Dc jdk_43_method_2_code 3 (.invokestatic 9) 3 6 := ⟨by decide +kernel, rfl⟩
theorem d15_6 : Dc jdk_43_method_2_code 6 (.aload_n 0) 1 7 := ⟨by decide +kernel, rfl⟩
theorem d15_7 : Dc jdk_43_method_2_code 7 (.iload_n 1) 1 8 := ⟨by decide +kernel, rfl⟩
theorem d15_8 : Dc jdk_43_method_2_code 8 (.baload) 1 9 := ⟨by decide +kernel, rfl⟩
theorem d15_9 : Dc jdk_43_method_2_code 9 (.sipush 255) 3 12 := ⟨by decide +kernel, rfl⟩
theorem d15_12 : Dc jdk_43_method_2_code 12 (.iand) 1 13 := ⟨by decide +kernel, rfl⟩
theorem d15_13 : Dc jdk_43_method_2_code 13 (.i2c) 1 14 := ⟨by decide +kernel, rfl⟩
theorem d15_14 : Dc jdk_43_method_2_code 14 (.ireturn) 1 15 := ⟨by decide +kernel, rfl⟩
theorem pn_rmlc : plainName "java/lang/StringLatin1" = true := by first | (simp [plainName, overriddenIn]; done) | decide +kernel
set_option maxRecDepth 65536 in
set_option maxHeartbeats 40000000 in
theorem rmlc (l : Launch) (Z : State) (a0 : Array Value) (hw : ∀ d ∈ tables_1, d.before a0 Z = true) (fv : Value) (hfv : fv = .null ∨ ∃ fa, fv = .ref fa) (SFV : Sta Z Z.heap "jdk/internal/util/Preconditions" "SIOOBE_FORMATTER" "Ljava/util/function/BiFunction;" fv) (b : Addr) (cB : ClassId) (bs ch : Nat → Int32) (i n : Int32) (i0 : ¬ i < (0 : Int32)) (i1 : i < n) (h0 : Heap) (A_b : Arx Z h0 b cB .byte n ((List.range n.toNatClampNeg).map fun j => .int (bs j)) (.int (0 : Int32)) "[B") (hb : ∀ j, j < n.toNatClampNeg → (bs j &&& (255 : Int32)) = ch j ∧ 0 ≤ (ch j).toInt ∧ (ch j).toInt ≤ 255) (OL : Old Z Z.heap.size h0) :
    Met l Z (⟨"java/lang/StringLatin1", "charAt", "([BI)C"⟩ : MethodName) jdk_43_method_2_code 2 (some .char) ({ frames := 2, cells := 0, slots := 0, locals := 27 } : Room) #[(.ref b), (.int i)] h0 (fun v h' => v = some (.int (ch i.toNatClampNeg)) ∧ h0 = h') := by
  refine met_of (Ls := #[.val (.ref b), .val (.int i)]) (plainFor_of_name pn_rmlc) (fun m => by first | (simp [entryFrame, mkF, argsToLocals, Value.category]; done) | rfl) (fun p e s m below meth c cx => ?_)
  refine g_iloadN cx d15_0 rfl ?_
  refine g_aloadN cx d15_1 rfl rfl ?_
  refine g_arraylength cx d15_2 A_b.1 ?_
  refine g_static cx (y := (⟨"java/lang/String", "checkIndex", "(II)V"⟩ : MethodName)) d15_3 (hw _ (List.mem_of_getElem? (i := 75) rfl)) (hw _ (List.mem_of_getElem? (i := 76) rfl)) (hw _ (List.mem_of_getElem? (i := 10) rfl)) (hw _ (List.mem_of_getElem? (i := 77) rfl)) (by decide) (bytes := jdk_42_method_155_code) (maxL' := 2) (M := (rmck2 l Z a0 hw fv hfv SFV i n i0 i1 _ OL)) rfl (lenOf pd_2 rfl) (by decide) (W := 0) (Nat.le_of_eq rfl) (by decide) (k' := 0) (n' := 0) rfl rfl (by decide) (by decide) (argsL := [(.int i), (.int n)]) (rest := []) rfl (fun v2 h1 q3 => ?_)
  obtain ⟨rfl, rfl⟩ := q3
  refine G.cast (st' := []) ?_ rfl
  refine g_aloadN cx d15_6 rfl rfl ?_
  refine g_iloadN cx d15_7 rfl ?_
  refine g_baload cx d15_8 A_b.1 ⟨i0, i1⟩ (v := (.int (bs i.toNatClampNeg))) (own_bsg (own_ixz i0 i1) _) ?_
  refine g_sipush cx d15_9 (v := (255 : Int32)) rfl ?_
  refine g_iand cx d15_12 ?_
  refine g_i2c cx d15_13 ?_
  refine g_retN cx d15_14 (t := .char) rfl (by simp) (by decide) (by decide) ?_
  obtain ⟨e1, e2, e3⟩ := hb _ (own_ixz i0 i1)
  exact ⟨by rw [e1, own_cc2 e2 e3], rfl⟩
theorem d13_0 : Dc jdk_42_method_56_code 0 (.aload_n 0) 1 1 := ⟨by decide +kernel, rfl⟩
theorem pd_3 : parseMethodDescriptor "()Z" = some ⟨[], some .boolean⟩ := by decide +kernel
theorem d13_1 : Dc jdk_42_method_56_code 1 (.invokevirtual 492) 3 4 := ⟨by decide +kernel, rfl⟩
theorem d13_4 : Bi jdk_42_method_56_code 4 (Instr.ifCond .eq) 16 7 := ⟨12, by decide +kernel, by decide, by decide, rfl⟩
theorem d13_7 : Dc jdk_42_method_56_code 7 (.aload_n 0) 1 8 := ⟨by decide +kernel, rfl⟩
theorem d13_8 : Dc jdk_42_method_56_code 8 (.getfield 9) 3 11 := ⟨by decide +kernel, rfl⟩
theorem d13_11 : Dc jdk_42_method_56_code 11 (.iload_n 1) 1 12 := ⟨by decide +kernel, rfl⟩
theorem pd_4 : parseMethodDescriptor "([BI)C" = some ⟨[(.array .byte), .int], some .char⟩ := by decide +kernel
theorem d13_12 : Dc jdk_42_method_56_code 12 (.invokestatic 495) 3 15 := ⟨by decide +kernel, rfl⟩
theorem d13_15 : Dc jdk_42_method_56_code 15 (.ireturn) 1 16 := ⟨by decide +kernel, rfl⟩
theorem pn_rmca : plainName "java/lang/String" = true := by first | (simp [plainName, overriddenIn]; done) | decide +kernel
set_option maxRecDepth 65536 in
set_option maxHeartbeats 40000000 in
theorem rmca (l : Launch) (Z : State) (a0 : Array Value) (hw : ∀ d ∈ tables_1, d.before a0 Z = true) (cs : Int32) (SCS : Sta Z Z.heap "java/lang/String" "COMPACT_STRINGS" "Z" (.int cs)) (hcs : ¬ cs = (0 : Int32)) (fv : Value) (hfv : fv = .null ∨ ∃ fa, fv = .ref fa) (SFV : Sta Z Z.heap "jdk/internal/util/Preconditions" "SIOOBE_FORMATTER" "Ljava/util/function/BiFunction;" fv) (mm : Nat) (tx : Addr) (n : Int32) (ch : Nat → Int32) (h0 : Heap) (TT : own_T Z h0 mm tx n ch) (OL : Old Z Z.heap.size h0) (i : Int32) (i0 : ¬ i < (0 : Int32)) (i1 : i < n) :
    Met l Z (⟨"java/lang/String", "charAt", "(I)C"⟩ : MethodName) jdk_42_method_56_code 2 (some .char) ({ frames := 3, cells := 0, slots := 0, locals := 40 } : Room) #[(.ref tx), (.int i)] h0 (fun v h' => v = some (.int (ch i.toNatClampNeg)) ∧ h0 = h') := by
  refine met_of (Ls := #[.val (.ref tx), .val (.int i)]) (plainFor_of_name pn_rmca) (fun m => by first | (simp [entryFrame, mkF, argsToLocals, Value.category]; done) | rfl) (fun p e s m below meth c cx => ?_)
  obtain ⟨b, cB, bs, hx1, hx2, hx3, n1, n5, O_tx, A_b, hb⟩ := TT
  refine g_aloadN cx d13_0 rfl rfl ?_
  refine g_virtual cx (y := (⟨"java/lang/String", "isLatin1", "()Z"⟩ : MethodName)) (z := (⟨"java/lang/String", "isLatin1", "()Z"⟩ : MethodName)) (a := tx) d13_1 (hw _ (List.mem_of_getElem? (i := 66) rfl)) (hw _ (List.mem_of_getElem? (i := 67) rfl)) (hw _ (List.mem_of_getElem? (i := 10) rfl)) (hw _ (List.mem_of_getElem? (i := 70) rfl)) (hw _ (List.mem_of_getElem? (i := 69) rfl)) (hw _ (List.mem_of_getElem? (i := 68) rfl)) rfl (by decide) O_tx.1 (bytes := jdk_42_method_154_code) (maxL' := 1) (M := (rmisLatin1 l Z a0 hw cs SCS hcs tx b _ O_tx OL)) rfl (lenOf pd_3 rfl) (by decide) (W := 0) (Nat.le_of_eq rfl) (by decide) (k' := 0) (n' := 0) rfl rfl (by decide) (by decide) (argsL := []) (rest := []) rfl (fun v2 h1 q3 => ?_)
  obtain ⟨rfl, rfl⟩ := q3
  refine G.cast (st' := [(.int (1 : Int32))]) ?_ rfl
  refine g_if_eq cx d13_4 (fun q => absurd q (fun q => by revert q; decide)) (fun hc4 => ?_)
  refine g_aloadN cx d13_7 rfl rfl ?_
  refine g_getF cx d13_8 (host := "") (Or.inl (hw _ (List.mem_of_getElem? (i := 35) rfl))) Via.refl O_tx.2.2 ?_
  refine g_iloadN cx d13_11 rfl ?_
  refine g_static cx (y := (⟨"java/lang/StringLatin1", "charAt", "([BI)C"⟩ : MethodName)) d13_12 (hw _ (List.mem_of_getElem? (i := 71) rfl)) (hw _ (List.mem_of_getElem? (i := 72) rfl)) (hw _ (List.mem_of_getElem? (i := 73) rfl)) (hw _ (List.mem_of_getElem? (i := 74) rfl)) (by decide) (bytes := jdk_43_method_2_code) (maxL' := 2) (M := (rmlc l Z a0 hw fv hfv SFV b cB bs ch i n i0 i1 _ A_b hb OL)) rfl (lenOf pd_4 rfl) (by decide) (W := 0) (Nat.le_of_eq rfl) (by decide) (k' := 0) (n' := 0) rfl rfl (by decide) (by decide) (argsL := [(.ref b), (.int i)]) (rest := []) rfl (fun v5 h4 q6 => ?_)
  obtain ⟨rfl, rfl⟩ := q6
  refine G.cast (st' := [(.int (ch i.toNatClampNeg))]) ?_ rfl
  refine g_retN cx d13_15 (t := .char) rfl (by simp) (by decide) (by decide) ?_
  obtain ⟨e1, e2, e3⟩ := hb _ (own_ixz i0 i1)
  exact ⟨by rw [own_cc e2 e3], rfl⟩

def own_dg (c : Int32) : Prop := 48 ≤ c.toInt ∧ c.toInt ≤ 57
def own_z (c : Int32) : Prop := c.toInt = 48 ∨ c.toInt = 46
def own_dp (c : Int32) : Prop := own_dg c ∨ c.toInt = 46
def own_ee (c : Int32) : Prop := c.toInt = 101 ∨ c.toInt = 69
def own_zp (c : Int32) : Int32 := if c = (48 : Int32) ∨ c = (46 : Int32) then (1 : Int32) else (0 : Int32)
theorem own_zp1 {c : Int32} (q : ¬ own_zp c = (0 : Int32)) : own_z c := by
  unfold own_zp at q
  by_cases h : c = (48 : Int32) ∨ c = (46 : Int32)
  · rcases h with rfl | rfl
    · exact Or.inl rfl
    · exact Or.inr rfl
  · simp [h] at q
theorem own_zp0 {c : Int32} (q : own_zp c = (0 : Int32)) : ¬ own_z c := by
  unfold own_zp at q
  by_cases h : c = (48 : Int32) ∨ c = (46 : Int32)
  · simp [h] at q
  · intro z
    rcases z with z | z
    · exact h (Or.inl (Int32.toInt_inj.mp z))
    · exact h (Or.inr (Int32.toInt_inj.mp z))
theorem own_nat {i : Int32} (i0 : 0 ≤ i.toInt) : (i.toNatClampNeg : Int) = i.toInt := by simp only [Int32.toNatClampNeg]; omega
theorem own_ge {i : Int32} (i0 : ¬ i < (0 : Int32)) : 0 ≤ i.toInt := by
  have h1 : ¬ i.toInt < (0 : Int32).toInt := fun q => i0 (Int32.lt_iff_toInt_lt.mpr q)
  have e0 : (0 : Int32).toInt = 0 := rfl
  omega
theorem own_lt0 {i : Int32} (i0 : 0 ≤ i.toInt) : ¬ i < (0 : Int32) := fun q => by
  have := Int32.lt_iff_toInt_lt.mp q
  have e0 : (0 : Int32).toInt = 0 := rfl
  omega
theorem own_nx {i n : Int32} (i0 : 0 ≤ i.toInt) (i1 : i < n) (n5 : n.toInt ≤ 5) : (i + (1 : Int32)).toInt = i.toInt + 1 := by
  have h2 := Int32.lt_iff_toInt_lt.mp i1
  have e1 : (1 : Int32).toInt = 1 := rfl
  have w := c_iadd i (1 : Int32)
  have w2 := rng32 (i + (1 : Int32))
  omega
theorem own_ltI {i n : Int32} (h : i.toInt < n.toInt) : i < n := Int32.lt_iff_toInt_lt.mpr h
theorem own_at {ch : Nat → Int32} {P : Int32 → Prop} {i : Int32} {j : Nat} (i0 : 0 ≤ i.toInt) (e : (j : Int) = i.toInt) (h : P (ch i.toNatClampNeg)) : P (ch j) := by
  have : i.toNatClampNeg = j := by have := own_nat i0; omega
  rw [← this]; exact h
def own_PP (n : Int32) (ch : Nat → Int32) (sa en : Int32) : Prop := 0 ≤ sa.toInt ∧ sa.toInt ≤ 1 ∧ (sa.toInt = 1 → (ch 0).toInt = 45) ∧ sa.toInt ≤ en.toInt ∧ en.toInt ≤ n.toInt ∧ (∀ j : Nat, sa.toInt ≤ (j : Int) → (j : Int) < en.toInt → own_dp (ch j)) ∧ (en.toInt = n.toInt ∨ (en.toInt < n.toInt ∧ own_ee (ch en.toNatClampNeg)))
def own_RR (n : Int32) (ch : Nat → Int32) (fi la : Int32) : Prop := ∃ sa en, own_PP n ch sa en ∧ (la < fi → ∀ j : Nat, sa.toInt ≤ (j : Int) → (j : Int) < en.toInt → own_z (ch j)) ∧ (¬ la < fi → ∃ j : Nat, sa.toInt ≤ (j : Int) ∧ (j : Int) < en.toInt ∧ ¬ own_z (ch j))

theorem d18_2 : Dc prog_20_method_7_code 2 (.iload_n 2) 1 3 := ⟨by decide +kernel, rfl⟩
theorem d18_3 : Dc prog_20_method_7_code 3 (.aload_n 0) 1 4 := ⟨by decide +kernel, rfl⟩
theorem pd_5 : parseMethodDescriptor "()I" = some ⟨[], some .int⟩ := by decide +kernel
theorem d18_4 : Dc prog_20_method_7_code 4 (.invokeinterface 13 1) 5 9 := ⟨by decide +kernel, rfl⟩
theorem d18_9 : Bi prog_20_method_7_code 9 (Instr.if_icmp .ge) 42 12 := ⟨33, by decide +kernel, by decide, by decide, rfl⟩
theorem d18_42 : Dc prog_20_method_7_code 42 (.iload_n 2) 1 43 := ⟨by decide +kernel, rfl⟩
theorem d18_43 : Dc prog_20_method_7_code 43 (.ireturn) 1 44 := ⟨by decide +kernel, rfl⟩
theorem d18_12 : Dc prog_20_method_7_code 12 (.aload_n 0) 1 13 := ⟨by decide +kernel, rfl⟩
theorem d18_13 : Dc prog_20_method_7_code 13 (.iload_n 2) 1 14 := ⟨by decide +kernel, rfl⟩
theorem pd_6 : parseMethodDescriptor "(I)C" = some ⟨[.int], some .char⟩ := by decide +kernel
theorem d18_14 : Dc prog_20_method_7_code 14 (.invokeinterface 19 2) 5 19 := ⟨by decide +kernel, rfl⟩
theorem d18_19 : Dc prog_20_method_7_code 19 (.bipush 48) 2 21 := ⟨by decide +kernel, rfl⟩
theorem d18_21 : Bi prog_20_method_7_code 21 (Instr.if_icmp .lt) 42 24 := ⟨21, by decide +kernel, by decide, by decide, rfl⟩
theorem d18_24 : Dc prog_20_method_7_code 24 (.aload_n 0) 1 25 := ⟨by decide +kernel, rfl⟩
theorem d18_25 : Dc prog_20_method_7_code 25 (.iload_n 2) 1 26 := ⟨by decide +kernel, rfl⟩
theorem d18_26 : Dc prog_20_method_7_code 26 (.invokeinterface 19 2) 5 31 := ⟨by decide +kernel, rfl⟩
theorem d18_31 : Dc prog_20_method_7_code 31 (.bipush 57) 2 33 := ⟨by decide +kernel, rfl⟩
theorem d18_33 : Bi prog_20_method_7_code 33 (Instr.if_icmp .gt) 42 36 := ⟨9, by decide +kernel, by decide, by decide, rfl⟩
theorem d18_36 : Dc prog_20_method_7_code 36 (.iinc 2 1) 3 39 := ⟨by decide +kernel, rfl⟩
theorem d18_39 : Bi prog_20_method_7_code 39 (Instr.goto) 2 42 := ⟨(-37), by decide +kernel, by decide, by decide, rfl⟩
theorem d18_0 : Dc prog_20_method_7_code 0 (.iload_n 1) 1 1 := ⟨by decide +kernel, rfl⟩
theorem d18_1 : Dc prog_20_method_7_code 1 (.istore_n 2) 1 2 := ⟨by decide +kernel, rfl⟩
theorem pn_rmde : plainName "com/example/crisp_typedef/crisptypedef/NumberText" = true := by first | (simp [plainName, overriddenIn]; done) | decide +kernel
set_option maxRecDepth 65536 in
set_option maxHeartbeats 40000000 in
theorem rmde (l : Launch) (Z : State) (a0 : Array Value) (hw : ∀ d ∈ tables_1, d.before a0 Z = true) (cs : Int32) (SCS : Sta Z Z.heap "java/lang/String" "COMPACT_STRINGS" "Z" (.int cs)) (hcs : ¬ cs = (0 : Int32)) (fv : Value) (hfv : fv = .null ∨ ∃ fa, fv = .ref fa) (SFV : Sta Z Z.heap "jdk/internal/util/Preconditions" "SIOOBE_FORMATTER" "Ljava/util/function/BiFunction;" fv) (mm : Nat) (tx : Addr) (n : Int32) (ch : Nat → Int32) (h0 : Heap) (TT : own_T Z h0 mm tx n ch) (OL : Old Z Z.heap.size h0) (fr : Int32) (f0 : 0 ≤ fr.toInt) (fn : fr.toInt ≤ n.toInt) :
    Met l Z (⟨"com/example/crisp_typedef/crisptypedef/NumberText", "digitsEnd", "(Ljava/lang/CharSequence;I)I"⟩ : MethodName) prog_20_method_7_code 3 (some .int) ({ frames := 4, cells := 0, slots := 0, locals := 53 } : Room) #[(.ref tx), (.int fr)] h0 (fun v h' => ∃ r : Int32, v = some (.int r) ∧ h0 = h' ∧ 0 ≤ r.toInt ∧ fr.toInt ≤ r.toInt ∧ r.toInt ≤ n.toInt ∧ ∀ j : Nat, fr.toInt ≤ (j : Int) → (j : Int) < r.toInt → own_dg (ch j)) := by
  refine met_of (Ls := #[.val (.ref tx), .val (.int fr), .unset]) (plainFor_of_name pn_rmde) (fun m => by first | (simp [entryFrame, mkF, argsToLocals, Value.category]; done) | rfl) (fun p e s m below meth c cx => ?_)
  obtain ⟨hmh, n1, n5, hch⟩ := own_Tn TT
  have O_tx := own_Tx TT
  have loop : ∀ (fu : Nat) (i : Int32), n.toInt - i.toInt ≤ (fu : Nat) → 0 ≤ i.toInt → fr.toInt ≤ i.toInt → i.toInt ≤ n.toInt → (∀ j : Nat, fr.toInt ≤ (j : Int) → (j : Int) < i.toInt → own_dg (ch j)) → G p l e ({ frames := 4, cells := 0, slots := 0, locals := 53 } : Room) s m #[.ref tx, .int fr] below meth c Z.heap.size (fun v h' => ∃ r : Int32, v = some (.int r) ∧ h0 = h' ∧ 0 ≤ r.toInt ∧ fr.toInt ≤ r.toInt ∧ r.toInt ≤ n.toInt ∧ ∀ j : Nat, fr.toInt ≤ (j : Int) → (j : Int) < r.toInt → own_dg (ch j)) h0 0 0 2 #[.val (.ref tx), .val (.int fr), .val (.int i)] [] := by
    intro fu
    induction fu with
    | zero =>
      intro i hfu i0 hfi hin hD
      refine g_iloadN cx d18_2 rfl ?_
      refine g_aloadN cx d18_3 rfl rfl ?_
      refine g_interface cx (x := (⟨"java/lang/CharSequence", "length", "()I"⟩ : MethodName)) (y := (⟨"java/lang/String", "length", "()I"⟩ : MethodName)) (a := tx) d18_4 (hw _ (List.mem_of_getElem? (i := 44) rfl)) (hw _ (List.mem_of_getElem? (i := 45) rfl)) (hw _ (List.mem_of_getElem? (i := 46) rfl)) (hw _ (List.mem_of_getElem? (i := 10) rfl)) (hw _ (List.mem_of_getElem? (i := 52) rfl)) (hw _ (List.mem_of_getElem? (i := 47) rfl)) (hw _ (List.mem_of_getElem? (i := 48) rfl)) (hw _ (List.mem_of_getElem? (i := 49) rfl)) (hw _ (List.mem_of_getElem? (i := 50) rfl)) (hw _ (List.mem_of_getElem? (i := 51) rfl)) (by decide) O_tx.1 (bytes := jdk_42_method_54_code) (maxL' := 1) (M := (rmln l Z a0 hw cs SCS hcs mm tx n ch _ TT OL)) rfl (lenOf pd_5 rfl) (by decide) (W := 1) (Nat.le_of_eq rfl) (by decide) (k' := 0) (n' := 0) rfl rfl (by decide) (by decide) (argsL := []) (rest := [(.int i)]) rfl (fun v2 h1 q3 => ?_)
      obtain ⟨rfl, rfl⟩ := q3
      refine G.cast (st' := [(.int n), (.int i)]) ?_ rfl
      refine g_icmp_ge cx d18_9 (fun hc9 => ?_) (fun q => absurd q (fun q => absurd (Int32.lt_iff_toInt_lt.mp q) (by omega)))
      refine g_iloadN cx d18_42 rfl ?_
      refine g_retI cx d18_43 rfl (by decide) (by decide) ?_
      exact ⟨i, rfl, rfl, i0, hfi, hin, hD⟩
    | succ fu ih =>
      intro i hfu i0 hfi hin hD
      refine g_iloadN cx d18_2 rfl ?_
      refine g_aloadN cx d18_3 rfl rfl ?_
      refine g_interface cx (x := (⟨"java/lang/CharSequence", "length", "()I"⟩ : MethodName)) (y := (⟨"java/lang/String", "length", "()I"⟩ : MethodName)) (a := tx) d18_4 (hw _ (List.mem_of_getElem? (i := 44) rfl)) (hw _ (List.mem_of_getElem? (i := 45) rfl)) (hw _ (List.mem_of_getElem? (i := 46) rfl)) (hw _ (List.mem_of_getElem? (i := 10) rfl)) (hw _ (List.mem_of_getElem? (i := 52) rfl)) (hw _ (List.mem_of_getElem? (i := 47) rfl)) (hw _ (List.mem_of_getElem? (i := 48) rfl)) (hw _ (List.mem_of_getElem? (i := 49) rfl)) (hw _ (List.mem_of_getElem? (i := 50) rfl)) (hw _ (List.mem_of_getElem? (i := 51) rfl)) (by decide) O_tx.1 (bytes := jdk_42_method_54_code) (maxL' := 1) (M := (rmln l Z a0 hw cs SCS hcs mm tx n ch _ TT OL)) rfl (lenOf pd_5 rfl) (by decide) (W := 1) (Nat.le_of_eq rfl) (by decide) (k' := 0) (n' := 0) rfl rfl (by decide) (by decide) (argsL := []) (rest := [(.int i)]) rfl (fun v2 h1 q3 => ?_)
      obtain ⟨rfl, rfl⟩ := q3
      refine G.cast (st' := [(.int n), (.int i)]) ?_ rfl
      refine g_icmp_ge cx d18_9 (fun hc9 => ?_) (fun hc9 => ?_)
      · refine g_iloadN cx d18_42 rfl ?_
        refine g_retI cx d18_43 rfl (by decide) (by decide) ?_
        exact ⟨i, rfl, rfl, i0, hfi, hin, hD⟩
      · refine g_aloadN cx d18_12 rfl rfl ?_
        refine g_iloadN cx d18_13 rfl ?_
        refine g_interface cx (x := (⟨"java/lang/CharSequence", "charAt", "(I)C"⟩ : MethodName)) (y := (⟨"java/lang/String", "charAt", "(I)C"⟩ : MethodName)) (a := tx) d18_14 (hw _ (List.mem_of_getElem? (i := 58) rfl)) (hw _ (List.mem_of_getElem? (i := 59) rfl)) (hw _ (List.mem_of_getElem? (i := 60) rfl)) (hw _ (List.mem_of_getElem? (i := 10) rfl)) (hw _ (List.mem_of_getElem? (i := 65) rfl)) (hw _ (List.mem_of_getElem? (i := 61) rfl)) (hw _ (List.mem_of_getElem? (i := 62) rfl)) (hw _ (List.mem_of_getElem? (i := 63) rfl)) (hw _ (List.mem_of_getElem? (i := 64) rfl)) (hw _ (List.mem_of_getElem? (i := 51) rfl)) (by decide) O_tx.1 (bytes := jdk_42_method_56_code) (maxL' := 2) (M := (rmca l Z a0 hw cs SCS hcs fv hfv SFV mm tx n ch _ TT OL i (own_lt0 i0) hc9)) rfl (lenOf pd_6 rfl) (by decide) (W := 0) (Nat.le_of_eq rfl) (by decide) (k' := 0) (n' := 0) rfl rfl (by decide) (by decide) (argsL := [(.int i)]) (rest := []) rfl (fun v5 h4 q6 => ?_)
        obtain ⟨rfl, rfl⟩ := q6
        refine G.cast (st' := [(.int (ch i.toNatClampNeg))]) ?_ rfl
        refine g_bipush cx d18_19 (v := (48 : Int32)) rfl ?_
        refine g_icmp_lt cx d18_21 (fun hc21 => ?_) (fun hc21 => ?_)
        · refine g_iloadN cx d18_42 rfl ?_
          refine g_retI cx d18_43 rfl (by decide) (by decide) ?_
          exact ⟨i, rfl, rfl, i0, hfi, hin, hD⟩
        · refine g_aloadN cx d18_24 rfl rfl ?_
          refine g_iloadN cx d18_25 rfl ?_
          refine g_interface cx (x := (⟨"java/lang/CharSequence", "charAt", "(I)C"⟩ : MethodName)) (y := (⟨"java/lang/String", "charAt", "(I)C"⟩ : MethodName)) (a := tx) d18_26 (hw _ (List.mem_of_getElem? (i := 58) rfl)) (hw _ (List.mem_of_getElem? (i := 59) rfl)) (hw _ (List.mem_of_getElem? (i := 60) rfl)) (hw _ (List.mem_of_getElem? (i := 10) rfl)) (hw _ (List.mem_of_getElem? (i := 65) rfl)) (hw _ (List.mem_of_getElem? (i := 61) rfl)) (hw _ (List.mem_of_getElem? (i := 62) rfl)) (hw _ (List.mem_of_getElem? (i := 63) rfl)) (hw _ (List.mem_of_getElem? (i := 64) rfl)) (hw _ (List.mem_of_getElem? (i := 51) rfl)) (by decide) O_tx.1 (bytes := jdk_42_method_56_code) (maxL' := 2) (M := (rmca l Z a0 hw cs SCS hcs fv hfv SFV mm tx n ch _ TT OL i (own_lt0 i0) hc9)) rfl (lenOf pd_6 rfl) (by decide) (W := 0) (Nat.le_of_eq rfl) (by decide) (k' := 0) (n' := 0) rfl rfl (by decide) (by decide) (argsL := [(.int i)]) (rest := []) rfl (fun v8 h7 q9 => ?_)
          obtain ⟨rfl, rfl⟩ := q9
          refine G.cast (st' := [(.int (ch i.toNatClampNeg))]) ?_ rfl
          refine g_bipush cx d18_31 (v := (57 : Int32)) rfl ?_
          refine g_icmp_gt cx d18_33 (fun hc33 => ?_) (fun hc33 => ?_)
          · refine g_iloadN cx d18_42 rfl ?_
            refine g_retI cx d18_43 rfl (by decide) (by decide) ?_
            exact ⟨i, rfl, rfl, i0, hfi, hin, hD⟩
          · refine g_iinc cx d18_36 rfl (v := (1 : Int32)) rfl (Ls' := #[.val (.ref tx), .val (.int fr), .val (.int (i + (1 : Int32)))]) rfl ?_
            refine g_goto cx d18_39 ?_
            have e1 := own_nx i0 hc9 n5
            have e2 := Int32.lt_iff_toInt_lt.mp hc9
            refine ih (i + (1 : Int32)) (by omega) (by omega) (by omega) (by omega) (fun j a b => ?_)
            by_cases q : (j : Int) = i.toInt
            · refine own_at i0 q ⟨?_, ?_⟩
              · have : ¬ (ch i.toNatClampNeg).toInt < (48 : Int32).toInt := fun z => hc21 (Int32.lt_iff_toInt_lt.mpr z)
                have e48 : (48 : Int32).toInt = 48 := rfl
                omega
              · have : ¬ (57 : Int32).toInt < (ch i.toNatClampNeg).toInt := fun z => hc33 (Int32.lt_iff_toInt_lt.mpr z)
                have e57 : (57 : Int32).toInt = 57 := rfl
                omega
            · exact hD j a (by omega)
  refine g_iloadN cx d18_0 rfl ?_
  refine g_istoreN cx d18_1 (Ls' := #[.val (.ref tx), .val (.int fr), .val (.int fr)]) rfl ?_
  exact loop 5 fr (by omega) f0 (by omega) fn (fun j a b => by omega)
theorem d31_5 : Dc prog_20_method_8_code 5 (.iload 5) 2 7 := ⟨by decide +kernel, rfl⟩
theorem d31_7 : Dc prog_20_method_8_code 7 (.iload_n 2) 1 8 := ⟨by decide +kernel, rfl⟩
theorem d31_8 : Bi prog_20_method_8_code 8 (Instr.if_icmp .ge) 45 11 := ⟨37, by decide +kernel, by decide, by decide, rfl⟩
theorem d31_45 : Dc prog_20_method_8_code 45 (.lload_n 3) 1 46 := ⟨by decide +kernel, rfl⟩
theorem d31_46 : Dc prog_20_method_8_code 46 (.lreturn) 1 47 := ⟨by decide +kernel, rfl⟩
theorem d31_11 : Dc prog_20_method_8_code 11 (.lload_n 3) 1 12 := ⟨by decide +kernel, rfl⟩
theorem d31_12 : Dc prog_20_method_8_code 12 (.ldc2_w 91) 3 15 := ⟨by decide +kernel, rfl⟩
theorem d31_15 : Dc prog_20_method_8_code 15 (.lcmp) 1 16 := ⟨by decide +kernel, rfl⟩
theorem d31_16 : Bi prog_20_method_8_code 16 (Instr.ifCond .gt) 45 19 := ⟨29, by decide +kernel, by decide, by decide, rfl⟩
theorem d31_19 : Dc prog_20_method_8_code 19 (.lload_n 3) 1 20 := ⟨by decide +kernel, rfl⟩
theorem d31_20 : Dc prog_20_method_8_code 20 (.ldc2_w 58) 3 23 := ⟨by decide +kernel, rfl⟩
theorem d31_23 : Dc prog_20_method_8_code 23 (.lmul) 1 24 := ⟨by decide +kernel, rfl⟩
theorem d31_24 : Dc prog_20_method_8_code 24 (.aload_n 0) 1 25 := ⟨by decide +kernel, rfl⟩
theorem d31_25 : Dc prog_20_method_8_code 25 (.iload 5) 2 27 := ⟨by decide +kernel, rfl⟩
theorem d31_27 : Dc prog_20_method_8_code 27 (.invokeinterface 19 2) 5 32 := ⟨by decide +kernel, rfl⟩
theorem d31_32 : Dc prog_20_method_8_code 32 (.i2l) 1 33 := ⟨by decide +kernel, rfl⟩
theorem d31_33 : Dc prog_20_method_8_code 33 (.ladd) 1 34 := ⟨by decide +kernel, rfl⟩
theorem d31_34 : Dc prog_20_method_8_code 34 (.ldc2_w 65) 3 37 := ⟨by decide +kernel, rfl⟩
theorem d31_37 : Dc prog_20_method_8_code 37 (.lsub) 1 38 := ⟨by decide +kernel, rfl⟩
theorem d31_38 : Dc prog_20_method_8_code 38 (.lstore_n 3) 1 39 := ⟨by decide +kernel, rfl⟩
theorem d31_39 : Dc prog_20_method_8_code 39 (.iinc 5 1) 3 42 := ⟨by decide +kernel, rfl⟩
theorem d31_42 : Bi prog_20_method_8_code 42 (Instr.goto) 5 45 := ⟨(-37), by decide +kernel, by decide, by decide, rfl⟩
theorem d31_0 : Dc prog_20_method_8_code 0 (.lconst 0) 1 1 := ⟨by decide +kernel, rfl⟩
theorem d31_1 : Dc prog_20_method_8_code 1 (.lstore_n 3) 1 2 := ⟨by decide +kernel, rfl⟩
theorem d31_2 : Dc prog_20_method_8_code 2 (.iload_n 1) 1 3 := ⟨by decide +kernel, rfl⟩
theorem d31_3 : Dc prog_20_method_8_code 3 (.istore 5) 2 5 := ⟨by decide +kernel, rfl⟩
theorem pn_rmex : plainName "com/example/crisp_typedef/crisptypedef/NumberText" = true := by first | (simp [plainName, overriddenIn]; done) | decide +kernel
set_option maxRecDepth 65536 in
set_option maxHeartbeats 40000000 in
theorem rmex (l : Launch) (Z : State) (a0 : Array Value) (hw : ∀ d ∈ tables_1, d.before a0 Z = true) (cs : Int32) (SCS : Sta Z Z.heap "java/lang/String" "COMPACT_STRINGS" "Z" (.int cs)) (hcs : ¬ cs = (0 : Int32)) (fv : Value) (hfv : fv = .null ∨ ∃ fa, fv = .ref fa) (SFV : Sta Z Z.heap "jdk/internal/util/Preconditions" "SIOOBE_FORMATTER" "Ljava/util/function/BiFunction;" fv) (mm : Nat) (tx : Addr) (n : Int32) (ch : Nat → Int32) (h0 : Heap) (TT : own_T Z h0 mm tx n ch) (OL : Old Z Z.heap.size h0) (fr to : Int32) (f0 : 0 ≤ fr.toInt) (hto : to.toInt ≤ n.toInt) :
    Met l Z (⟨"com/example/crisp_typedef/crisptypedef/NumberText", "exponent", "(Ljava/lang/CharSequence;II)J"⟩ : MethodName) prog_20_method_8_code 6 (some .long) ({ frames := 4, cells := 0, slots := 0, locals := 55 } : Room) #[(.ref tx), (.int fr), (.int to)] h0 (fun v h' => ∃ r : Int64, v = some (.long r) ∧ h0 = h') := by
  refine met_of (Ls := #[.val (.ref tx), .val (.int fr), .val (.int to), .unset, .unset, .unset]) (plainFor_of_name pn_rmex) (fun m => by first | (simp [entryFrame, mkF, argsToLocals, Value.category]; done) | rfl) (fun p e s m below meth c cx => ?_)
  obtain ⟨hmh, n1, n5, hch⟩ := own_Tn TT
  have O_tx := own_Tx TT
  have loop : ∀ (fu : Nat) (i : Int32) (acc : Int64), to.toInt - i.toInt ≤ (fu : Nat) → 0 ≤ i.toInt → G p l e ({ frames := 4, cells := 0, slots := 0, locals := 55 } : Room) s m #[.ref tx, .int fr, .int to] below meth c Z.heap.size (fun v h' => ∃ r : Int64, v = some (.long r) ∧ h0 = h') h0 0 0 5 #[.val (.ref tx), .val (.int fr), .val (.int to), .val (.long acc), .second, .val (.int i)] [] := by
    intro fu
    induction fu with
    | zero =>
      intro i acc hfu i0
      refine g_iload cx d31_5 rfl ?_
      refine g_iloadN cx d31_7 rfl ?_
      refine g_icmp_ge cx d31_8 (fun hc8 => ?_) (fun q => absurd q (fun q => absurd (Int32.lt_iff_toInt_lt.mp q) (by omega)))
      refine g_lloadN cx d31_45 rfl ?_
      refine g_retJ cx d31_46 rfl (by decide) (by decide) ?_
      exact ⟨_, rfl, rfl⟩
    | succ fu ih =>
      intro i acc hfu i0
      refine g_iload cx d31_5 rfl ?_
      refine g_iloadN cx d31_7 rfl ?_
      refine g_icmp_ge cx d31_8 (fun hc8 => ?_) (fun hc8 => ?_)
      · refine g_lloadN cx d31_45 rfl ?_
        refine g_retJ cx d31_46 rfl (by decide) (by decide) ?_
        exact ⟨_, rfl, rfl⟩
      · refine g_lloadN cx d31_11 rfl ?_
        refine g_ldcJ cx d31_12 (hw _ (List.mem_of_getElem? (i := 167) rfl)) ?_
        refine g_lif_gt cx d31_15 d31_16 (fun hc16 => ?_) (fun hc16 => ?_)
        · refine g_lloadN cx d31_45 rfl ?_
          refine g_retJ cx d31_46 rfl (by decide) (by decide) ?_
          exact ⟨_, rfl, rfl⟩
        · refine g_lloadN cx d31_19 rfl ?_
          refine g_ldcJ cx d31_20 (hw _ (List.mem_of_getElem? (i := 168) rfl)) ?_
          refine g_lmul cx d31_23 ?_
          refine g_aloadN cx d31_24 rfl rfl ?_
          refine g_iload cx d31_25 rfl ?_
          refine g_interface cx (x := (⟨"java/lang/CharSequence", "charAt", "(I)C"⟩ : MethodName)) (y := (⟨"java/lang/String", "charAt", "(I)C"⟩ : MethodName)) (a := tx) d31_27 (hw _ (List.mem_of_getElem? (i := 58) rfl)) (hw _ (List.mem_of_getElem? (i := 59) rfl)) (hw _ (List.mem_of_getElem? (i := 60) rfl)) (hw _ (List.mem_of_getElem? (i := 10) rfl)) (hw _ (List.mem_of_getElem? (i := 65) rfl)) (hw _ (List.mem_of_getElem? (i := 61) rfl)) (hw _ (List.mem_of_getElem? (i := 62) rfl)) (hw _ (List.mem_of_getElem? (i := 63) rfl)) (hw _ (List.mem_of_getElem? (i := 64) rfl)) (hw _ (List.mem_of_getElem? (i := 51) rfl)) (by decide) O_tx.1 (bytes := jdk_42_method_56_code) (maxL' := 2) (M := (rmca l Z a0 hw cs SCS hcs fv hfv SFV mm tx n ch _ TT OL i (own_lt0 i0) (own_ltI (Int.lt_of_lt_of_le (Int32.lt_iff_toInt_lt.mp hc8) hto)))) rfl (lenOf pd_6 rfl) (by decide) (W := 2) (Nat.le_of_eq rfl) (by decide) (k' := 0) (n' := 0) rfl rfl (by decide) (by decide) (argsL := [(.int i)]) (rest := [(.long (acc * (10 : Int64)))]) rfl (fun v2 h1 q3 => ?_)
          obtain ⟨rfl, rfl⟩ := q3
          refine G.cast (st' := [(.int (ch i.toNatClampNeg)), (.long (acc * (10 : Int64)))]) ?_ rfl
          refine g_i2l cx d31_32 ?_
          refine g_ladd cx d31_33 ?_
          refine g_ldcJ cx d31_34 (hw _ (List.mem_of_getElem? (i := 169) rfl)) ?_
          refine g_lsub cx d31_37 ?_
          refine g_lstoreN cx d31_38 (Ls' := #[.val (.ref tx), .val (.int fr), .val (.int to), .val (.long (((acc * (10 : Int64)) + (((ch i.toNatClampNeg)).toInt64)) - (48 : Int64))), .second, .val (.int i)]) rfl ?_
          refine g_iinc cx d31_39 rfl (v := (1 : Int32)) rfl (Ls' := #[.val (.ref tx), .val (.int fr), .val (.int to), .val (.long (((acc * (10 : Int64)) + (((ch i.toNatClampNeg)).toInt64)) - (48 : Int64))), .second, .val (.int (i + (1 : Int32)))]) rfl ?_
          refine g_goto cx d31_42 ?_
          have e2 := Int32.lt_iff_toInt_lt.mp hc8
          have e1 := own_nx i0 (own_ltI (Int.lt_of_lt_of_le e2 hto)) n5
          exact ih (i + (1 : Int32)) _ (by omega) (by omega)
  refine g_lconst cx d31_0 (v := (0 : Int64)) rfl ?_
  refine g_lstoreN cx d31_1 (Ls' := #[.val (.ref tx), .val (.int fr), .val (.int to), .val (.long (0 : Int64)), .second, .unset]) rfl ?_
  refine g_iloadN cx d31_2 rfl ?_
  refine g_istore cx d31_3 (Ls' := #[.val (.ref tx), .val (.int fr), .val (.int to), .val (.long (0 : Int64)), .second, .val (.int fr)]) rfl ?_
  exact loop 5 fr _ (by omega) f0
theorem d20_0 : Dc jdk_30_method_1_code 0 (.aload_n 0) 1 1 := ⟨by decide +kernel, rfl⟩
theorem d20_1 : Dc jdk_30_method_1_code 1 (.invokespecial 1) 3 4 := ⟨by decide +kernel, rfl⟩
theorem d20_4 : Dc jdk_30_method_1_code 4 (.return_) 1 5 := ⟨by decide +kernel, rfl⟩
theorem pn_rmrec0 : plainName "java/lang/Record" = true := by first | (simp [plainName, overriddenIn]; done) | decide +kernel
set_option maxRecDepth 65536 in
set_option maxHeartbeats 40000000 in
theorem rmrec0 (l : Launch) (Z : State) (a0 : Array Value) (hw : ∀ d ∈ tables_1, d.before a0 Z = true) (a : Addr) (h0 : Heap) :
    Met l Z (⟨"java/lang/Record", "<init>", "()V"⟩ : MethodName) jdk_30_method_1_code 1 none ({ frames := 1, cells := 0, slots := 0, locals := 12 } : Room) #[(.ref a)] h0 (fun v h' => v = none ∧ h0 = h') := by
  refine met_of (Ls := #[.val (.ref a)]) (plainFor_of_name pn_rmrec0) (fun m => by first | (simp [entryFrame, mkF, argsToLocals, Value.category]; done) | rfl) (fun p e s m below meth c cx => ?_)
  refine g_aloadN cx d20_0 rfl rfl ?_
  refine g_initO cx d20_1 (hw _ (List.mem_of_getElem? (i := 97) rfl)) (hw _ (List.mem_of_getElem? (i := 19) rfl)) (hw _ (List.mem_of_getElem? (i := 20) rfl)) rfl (by decide) (W := 0) (Nat.le_of_eq rfl) (by decide) ?_
  refine g_retV cx d20_4 rfl (by decide) (by decide) ?_
  exact ⟨rfl, rfl⟩
theorem d19_0 : Dc prog_21_method_1_code 0 (.aload_n 0) 1 1 := ⟨by decide +kernel, rfl⟩
theorem pd_7 : parseMethodDescriptor "()V" = some ⟨[], none⟩ := by decide +kernel
theorem d19_1 : Dc prog_21_method_1_code 1 (.invokespecial 1) 3 4 := ⟨by decide +kernel, rfl⟩
theorem d19_4 : Dc prog_21_method_1_code 4 (.aload_n 0) 1 5 := ⟨by decide +kernel, rfl⟩
theorem d19_5 : Dc prog_21_method_1_code 5 (.iload_n 1) 1 6 := ⟨by decide +kernel, rfl⟩
theorem d19_6 : Dc prog_21_method_1_code 6 (.putfield 7) 3 9 := ⟨by decide +kernel, rfl⟩
theorem d19_9 : Dc prog_21_method_1_code 9 (.aload_n 0) 1 10 := ⟨by decide +kernel, rfl⟩
theorem d19_10 : Dc prog_21_method_1_code 10 (.iload_n 2) 1 11 := ⟨by decide +kernel, rfl⟩
theorem d19_11 : Dc prog_21_method_1_code 11 (.putfield 13) 3 14 := ⟨by decide +kernel, rfl⟩
theorem d19_14 : Dc prog_21_method_1_code 14 (.aload_n 0) 1 15 := ⟨by decide +kernel, rfl⟩
theorem d19_15 : Dc prog_21_method_1_code 15 (.iload_n 3) 1 16 := ⟨by decide +kernel, rfl⟩
theorem d19_16 : Dc prog_21_method_1_code 16 (.putfield 17) 3 19 := ⟨by decide +kernel, rfl⟩
theorem d19_19 : Dc prog_21_method_1_code 19 (.aload_n 0) 1 20 := ⟨by decide +kernel, rfl⟩
theorem d19_20 : Dc prog_21_method_1_code 20 (.iload 4) 2 22 := ⟨by decide +kernel, rfl⟩
theorem d19_22 : Dc prog_21_method_1_code 22 (.putfield 20) 3 25 := ⟨by decide +kernel, rfl⟩
theorem d19_25 : Dc prog_21_method_1_code 25 (.aload_n 0) 1 26 := ⟨by decide +kernel, rfl⟩
theorem d19_26 : Dc prog_21_method_1_code 26 (.lload 5) 2 28 := ⟨by decide +kernel, rfl⟩
theorem d19_28 : Dc prog_21_method_1_code 28 (.putfield 23) 3 31 := ⟨by decide +kernel, rfl⟩
theorem d19_31 : Dc prog_21_method_1_code 31 (.return_) 1 32 := ⟨by decide +kernel, rfl⟩
theorem pn_rmPI : plainName "com/example/crisp_typedef/crisptypedef/NumberText$Parts" = true := by first | (simp [plainName, overriddenIn]; done) | decide +kernel
set_option maxRecDepth 65536 in
set_option maxHeartbeats 40000000 in
theorem rmPI (l : Launch) (Z : State) (a0 : Array Value) (hw : ∀ d ∈ tables_1, d.before a0 Z = true) (a : Addr) (p1 : Int32) (p2 : Int32) (p3 : Int32) (p4 : Int32) (p5 : Int64) (h0 : Heap) (O_a : ObP Z h0 a (.int (0 : Int32)) (.int (0 : Int32)) (.int (0 : Int32)) (.int (0 : Int32)) (.long (0 : Int64))) (g_a : Z.heap.size ≤ a) (OL : Old Z Z.heap.size h0) :
    Met l Z (⟨"com/example/crisp_typedef/crisptypedef/NumberText$Parts", "<init>", "(ZIIIJ)V"⟩ : MethodName) prog_21_method_1_code 7 none ({ frames := 2, cells := 0, slots := 0, locals := 24 } : Room) #[(.ref a), (.int p1), (.int p2), (.int p3), (.int p4), (.long p5)] h0 (fun v h' => v = none ∧ Keep h0 h' [a] ∧ ObP Z h' a (.int (nar .boolean p1)) (.int p2) (.int p3) (.int p4) (.long p5)) := by
  refine met_of (Ls := #[.val (.ref a), .val (.int p1), .val (.int p2), .val (.int p3), .val (.int p4), .val (.long p5), .second]) (plainFor_of_name pn_rmPI) (fun m => by first | (simp [entryFrame, mkF, argsToLocals, Value.category]; done) | rfl) (fun p e s m below meth c cx => ?_)
  have KK := Keep.refl h0 [a]
  refine g_aloadN cx d19_0 rfl rfl ?_
  refine g_special cx (y := (⟨"java/lang/Record", "<init>", "()V"⟩ : MethodName)) (a := a) d19_1 rfl rfl (hw _ (List.mem_of_getElem? (i := 92) rfl)) (hw _ (List.mem_of_getElem? (i := 93) rfl)) (hw _ (List.mem_of_getElem? (i := 95) rfl)) (hw _ (List.mem_of_getElem? (i := 96) rfl)) (by decide) (bytes := jdk_30_method_1_code) (maxL' := 1) (M := (rmrec0 l Z a0 hw a _)) rfl (lenOf pd_7 rfl) (by decide) (W := 0) (Nat.le_of_eq rfl) (by decide) (k' := 0) (n' := 0) rfl rfl (by decide) (by decide) (argsL := []) (rest := []) rfl (fun v2 h1 q3 => ?_)
  obtain ⟨rfl, rfl⟩ := q3
  refine G.cast (st' := []) ?_ rfl
  refine g_aloadN cx d19_4 rfl rfl ?_
  refine g_iloadN cx d19_5 rfl ?_
  refine g_putFN cx d19_6 (hw _ (List.mem_of_getElem? (i := 98) rfl)) Via.refl O_a.2.1 O_a.1 (Or.inr ⟨(hw _ (List.mem_of_getElem? (i := 99) rfl)), rfl, rfl⟩) (hw _ (List.mem_of_getElem? (i := 87) rfl)) (ty := .boolean) (v' := (.int (nar .boolean p1))) (by decide) rfl (fits_nar_bool _) g_a (fun h4 W5 => ?_)
  have O_a := O_a.put1 hw W5
  have OL := OL.wr W5 g_a
  have KK := KK.wr W5 (Or.inl (List.mem_of_getElem? (i := 0) rfl))
  refine g_aloadN cx d19_9 rfl rfl ?_
  refine g_iloadN cx d19_10 rfl ?_
  refine g_putF cx d19_11 (host := "") (Or.inl (hw _ (List.mem_of_getElem? (i := 100) rfl))) Via.refl O_a.2.2.1 O_a.1 (Or.inr ⟨(hw _ (List.mem_of_getElem? (i := 101) rfl)), rfl, rfl⟩) (hw _ (List.mem_of_getElem? (i := 87) rfl)) (ty := .int) (by decide) rfl rfl g_a (fun h6 W7 => ?_)
  have O_a := O_a.put2 hw W7
  have OL := OL.wr W7 g_a
  have KK := KK.wr W7 (Or.inl (List.mem_of_getElem? (i := 0) rfl))
  refine g_aloadN cx d19_14 rfl rfl ?_
  refine g_iloadN cx d19_15 rfl ?_
  refine g_putF cx d19_16 (host := "") (Or.inl (hw _ (List.mem_of_getElem? (i := 102) rfl))) Via.refl O_a.2.2.2.1 O_a.1 (Or.inr ⟨(hw _ (List.mem_of_getElem? (i := 103) rfl)), rfl, rfl⟩) (hw _ (List.mem_of_getElem? (i := 87) rfl)) (ty := .int) (by decide) rfl rfl g_a (fun h8 W9 => ?_)
  have O_a := O_a.put3 hw W9
  have OL := OL.wr W9 g_a
  have KK := KK.wr W9 (Or.inl (List.mem_of_getElem? (i := 0) rfl))
  refine g_aloadN cx d19_19 rfl rfl ?_
  refine g_iload cx d19_20 rfl ?_
  refine g_putF cx d19_22 (host := "") (Or.inl (hw _ (List.mem_of_getElem? (i := 104) rfl))) Via.refl O_a.2.2.2.2.1 O_a.1 (Or.inr ⟨(hw _ (List.mem_of_getElem? (i := 105) rfl)), rfl, rfl⟩) (hw _ (List.mem_of_getElem? (i := 87) rfl)) (ty := .int) (by decide) rfl rfl g_a (fun h10 W11 => ?_)
  have O_a := O_a.put4 hw W11
  have OL := OL.wr W11 g_a
  have KK := KK.wr W11 (Or.inl (List.mem_of_getElem? (i := 0) rfl))
  refine g_aloadN cx d19_25 rfl rfl ?_
  refine g_lload cx d19_26 rfl ?_
  refine g_putF cx d19_28 (host := "") (Or.inl (hw _ (List.mem_of_getElem? (i := 106) rfl))) Via.refl O_a.2.2.2.2.2 O_a.1 (Or.inr ⟨(hw _ (List.mem_of_getElem? (i := 107) rfl)), rfl, rfl⟩) (hw _ (List.mem_of_getElem? (i := 87) rfl)) (ty := .long) (by decide) rfl rfl g_a (fun h12 W13 => ?_)
  have O_a := O_a.put5 hw W13
  have OL := OL.wr W13 g_a
  have KK := KK.wr W13 (Or.inl (List.mem_of_getElem? (i := 0) rfl))
  refine g_retV cx d19_31 rfl (by decide) (by decide) ?_
  exact ⟨rfl, KK, O_a⟩
theorem d27_0 : Dc prog_22_method_1_code 0 (.aload_n 0) 1 1 := ⟨by decide +kernel, rfl⟩
theorem d27_1 : Dc prog_22_method_1_code 1 (.invokespecial 1) 3 4 := ⟨by decide +kernel, rfl⟩
theorem d27_4 : Dc prog_22_method_1_code 4 (.aload_n 0) 1 5 := ⟨by decide +kernel, rfl⟩
theorem d27_5 : Dc prog_22_method_1_code 5 (.iload_n 1) 1 6 := ⟨by decide +kernel, rfl⟩
theorem d27_6 : Dc prog_22_method_1_code 6 (.putfield 7) 3 9 := ⟨by decide +kernel, rfl⟩
theorem d27_9 : Dc prog_22_method_1_code 9 (.aload_n 0) 1 10 := ⟨by decide +kernel, rfl⟩
theorem d27_10 : Dc prog_22_method_1_code 10 (.iload_n 2) 1 11 := ⟨by decide +kernel, rfl⟩
theorem d27_11 : Dc prog_22_method_1_code 11 (.putfield 13) 3 14 := ⟨by decide +kernel, rfl⟩
theorem d27_14 : Dc prog_22_method_1_code 14 (.aload_n 0) 1 15 := ⟨by decide +kernel, rfl⟩
theorem d27_15 : Dc prog_22_method_1_code 15 (.iload_n 3) 1 16 := ⟨by decide +kernel, rfl⟩
theorem d27_16 : Dc prog_22_method_1_code 16 (.putfield 17) 3 19 := ⟨by decide +kernel, rfl⟩
theorem d27_19 : Dc prog_22_method_1_code 19 (.aload_n 0) 1 20 := ⟨by decide +kernel, rfl⟩
theorem d27_20 : Dc prog_22_method_1_code 20 (.iload 4) 2 22 := ⟨by decide +kernel, rfl⟩
theorem d27_22 : Dc prog_22_method_1_code 22 (.putfield 20) 3 25 := ⟨by decide +kernel, rfl⟩
theorem d27_25 : Dc prog_22_method_1_code 25 (.aload_n 0) 1 26 := ⟨by decide +kernel, rfl⟩
theorem d27_26 : Dc prog_22_method_1_code 26 (.lload 5) 2 28 := ⟨by decide +kernel, rfl⟩
theorem d27_28 : Dc prog_22_method_1_code 28 (.putfield 23) 3 31 := ⟨by decide +kernel, rfl⟩
theorem d27_31 : Dc prog_22_method_1_code 31 (.return_) 1 32 := ⟨by decide +kernel, rfl⟩
theorem pn_rmGI : plainName "com/example/crisp_typedef/crisptypedef/NumberText$Significand" = true := by first | (simp [plainName, overriddenIn]; done) | decide +kernel
set_option maxRecDepth 65536 in
set_option maxHeartbeats 40000000 in
theorem rmGI (l : Launch) (Z : State) (a0 : Array Value) (hw : ∀ d ∈ tables_1, d.before a0 Z = true) (a : Addr) (p1 : Int32) (p2 : Int32) (p3 : Int32) (p4 : Int32) (p5 : Int64) (h0 : Heap) (O_a : ObG Z h0 a (.int (0 : Int32)) (.int (0 : Int32)) (.int (0 : Int32)) (.int (0 : Int32)) (.long (0 : Int64))) (g_a : Z.heap.size ≤ a) (OL : Old Z Z.heap.size h0) :
    Met l Z (⟨"com/example/crisp_typedef/crisptypedef/NumberText$Significand", "<init>", "(ZIIIJ)V"⟩ : MethodName) prog_22_method_1_code 7 none ({ frames := 2, cells := 0, slots := 0, locals := 24 } : Room) #[(.ref a), (.int p1), (.int p2), (.int p3), (.int p4), (.long p5)] h0 (fun v h' => v = none ∧ Keep h0 h' [a] ∧ ObG Z h' a (.int (nar .boolean p1)) (.int p2) (.int p3) (.int p4) (.long p5)) := by
  refine met_of (Ls := #[.val (.ref a), .val (.int p1), .val (.int p2), .val (.int p3), .val (.int p4), .val (.long p5), .second]) (plainFor_of_name pn_rmGI) (fun m => by first | (simp [entryFrame, mkF, argsToLocals, Value.category]; done) | rfl) (fun p e s m below meth c cx => ?_)
  have KK := Keep.refl h0 [a]
  refine g_aloadN cx d27_0 rfl rfl ?_
  refine g_special cx (y := (⟨"java/lang/Record", "<init>", "()V"⟩ : MethodName)) (a := a) d27_1 rfl rfl (hw _ (List.mem_of_getElem? (i := 142) rfl)) (hw _ (List.mem_of_getElem? (i := 93) rfl)) (hw _ (List.mem_of_getElem? (i := 95) rfl)) (hw _ (List.mem_of_getElem? (i := 96) rfl)) (by decide) (bytes := jdk_30_method_1_code) (maxL' := 1) (M := (rmrec0 l Z a0 hw a _)) rfl (lenOf pd_7 rfl) (by decide) (W := 0) (Nat.le_of_eq rfl) (by decide) (k' := 0) (n' := 0) rfl rfl (by decide) (by decide) (argsL := []) (rest := []) rfl (fun v2 h1 q3 => ?_)
  obtain ⟨rfl, rfl⟩ := q3
  refine G.cast (st' := []) ?_ rfl
  refine g_aloadN cx d27_4 rfl rfl ?_
  refine g_iloadN cx d27_5 rfl ?_
  refine g_putFN cx d27_6 (hw _ (List.mem_of_getElem? (i := 143) rfl)) Via.refl O_a.2.1 O_a.1 (Or.inr ⟨(hw _ (List.mem_of_getElem? (i := 144) rfl)), rfl, rfl⟩) (hw _ (List.mem_of_getElem? (i := 127) rfl)) (ty := .boolean) (v' := (.int (nar .boolean p1))) (by decide) rfl (fits_nar_bool _) g_a (fun h4 W5 => ?_)
  have O_a := O_a.put1 hw W5
  have OL := OL.wr W5 g_a
  have KK := KK.wr W5 (Or.inl (List.mem_of_getElem? (i := 0) rfl))
  refine g_aloadN cx d27_9 rfl rfl ?_
  refine g_iloadN cx d27_10 rfl ?_
  refine g_putF cx d27_11 (host := "") (Or.inl (hw _ (List.mem_of_getElem? (i := 145) rfl))) Via.refl O_a.2.2.1 O_a.1 (Or.inr ⟨(hw _ (List.mem_of_getElem? (i := 146) rfl)), rfl, rfl⟩) (hw _ (List.mem_of_getElem? (i := 127) rfl)) (ty := .int) (by decide) rfl rfl g_a (fun h6 W7 => ?_)
  have O_a := O_a.put2 hw W7
  have OL := OL.wr W7 g_a
  have KK := KK.wr W7 (Or.inl (List.mem_of_getElem? (i := 0) rfl))
  refine g_aloadN cx d27_14 rfl rfl ?_
  refine g_iloadN cx d27_15 rfl ?_
  refine g_putF cx d27_16 (host := "") (Or.inl (hw _ (List.mem_of_getElem? (i := 147) rfl))) Via.refl O_a.2.2.2.1 O_a.1 (Or.inr ⟨(hw _ (List.mem_of_getElem? (i := 148) rfl)), rfl, rfl⟩) (hw _ (List.mem_of_getElem? (i := 127) rfl)) (ty := .int) (by decide) rfl rfl g_a (fun h8 W9 => ?_)
  have O_a := O_a.put3 hw W9
  have OL := OL.wr W9 g_a
  have KK := KK.wr W9 (Or.inl (List.mem_of_getElem? (i := 0) rfl))
  refine g_aloadN cx d27_19 rfl rfl ?_
  refine g_iload cx d27_20 rfl ?_
  refine g_putF cx d27_22 (host := "") (Or.inl (hw _ (List.mem_of_getElem? (i := 149) rfl))) Via.refl O_a.2.2.2.2.1 O_a.1 (Or.inr ⟨(hw _ (List.mem_of_getElem? (i := 150) rfl)), rfl, rfl⟩) (hw _ (List.mem_of_getElem? (i := 127) rfl)) (ty := .int) (by decide) rfl rfl g_a (fun h10 W11 => ?_)
  have O_a := O_a.put4 hw W11
  have OL := OL.wr W11 g_a
  have KK := KK.wr W11 (Or.inl (List.mem_of_getElem? (i := 0) rfl))
  refine g_aloadN cx d27_25 rfl rfl ?_
  refine g_lload cx d27_26 rfl ?_
  refine g_putF cx d27_28 (host := "") (Or.inl (hw _ (List.mem_of_getElem? (i := 151) rfl))) Via.refl O_a.2.2.2.2.2 O_a.1 (Or.inr ⟨(hw _ (List.mem_of_getElem? (i := 152) rfl)), rfl, rfl⟩) (hw _ (List.mem_of_getElem? (i := 127) rfl)) (ty := .long) (by decide) rfl rfl g_a (fun h12 W13 => ?_)
  have O_a := O_a.put5 hw W13
  have OL := OL.wr W13 g_a
  have KK := KK.wr W13 (Or.inl (List.mem_of_getElem? (i := 0) rfl))
  refine g_retV cx d27_31 rfl (by decide) (by decide) ?_
  exact ⟨rfl, KK, O_a⟩
theorem d23_0 : Dc prog_20_method_9_code 0 (.iload_n 0) 1 1 := ⟨by decide +kernel, rfl⟩
theorem d23_1 : Dc prog_20_method_9_code 1 (.bipush 48) 2 3 := ⟨by decide +kernel, rfl⟩
theorem d23_3 : Bi prog_20_method_9_code 3 (Instr.if_icmp .eq) 12 6 := ⟨9, by decide +kernel, by decide, by decide, rfl⟩
theorem d23_12 : Dc prog_20_method_9_code 12 (.iconst 1) 1 13 := ⟨by decide +kernel, rfl⟩
theorem d23_13 : Bi prog_20_method_9_code 13 (Instr.goto) 17 16 := ⟨4, by decide +kernel, by decide, by decide, rfl⟩
theorem d23_17 : Dc prog_20_method_9_code 17 (.ireturn) 1 18 := ⟨by decide +kernel, rfl⟩
theorem d23_6 : Dc prog_20_method_9_code 6 (.iload_n 0) 1 7 := ⟨by decide +kernel, rfl⟩
theorem d23_7 : Dc prog_20_method_9_code 7 (.bipush 46) 2 9 := ⟨by decide +kernel, rfl⟩
theorem d23_9 : Bi prog_20_method_9_code 9 (Instr.if_icmp .ne) 16 12 := ⟨7, by decide +kernel, by decide, by decide, rfl⟩
theorem d23_16 : Dc prog_20_method_9_code 16 (.iconst 0) 1 17 := ⟨by decide +kernel, rfl⟩
theorem pn_rmzp : plainName "com/example/crisp_typedef/crisptypedef/NumberText" = true := by first | (simp [plainName, overriddenIn]; done) | decide +kernel
set_option maxRecDepth 65536 in
set_option maxHeartbeats 40000000 in
theorem rmzp (l : Launch) (Z : State) (a0 : Array Value) (hw : ∀ d ∈ tables_1, d.before a0 Z = true) (y : Int32) (h0 : Heap) :
    Met l Z (⟨"com/example/crisp_typedef/crisptypedef/NumberText", "isZeroOrPoint", "(C)Z"⟩ : MethodName) prog_20_method_9_code 1 (some .boolean) ({ frames := 0, cells := 0, slots := 0, locals := 0 } : Room) #[(.int y)] h0 (fun v h' => v = some (.int (own_zp y)) ∧ h0 = h') := by
  refine met_of (Ls := #[.val (.int y)]) (plainFor_of_name pn_rmzp) (fun m => by first | (simp [entryFrame, mkF, argsToLocals, Value.category]; done) | rfl) (fun p e s m below meth c cx => ?_)
  refine g_iloadN cx d23_0 rfl ?_
  refine g_bipush cx d23_1 (v := (48 : Int32)) rfl ?_
  refine g_icmp_eq cx d23_3 (fun hc3 => ?_) (fun hc3 => ?_)
  · refine g_iconst cx d23_12 (v := (1 : Int32)) rfl ?_
    refine g_goto cx d23_13 ?_
    refine g_retZ cx d23_17 rfl rfl (by decide) (by decide) ?_
    exact ⟨by simp [own_zp, hc3], rfl⟩
  · refine g_iloadN cx d23_6 rfl ?_
    refine g_bipush cx d23_7 (v := (46 : Int32)) rfl ?_
    refine g_icmp_ne cx d23_9 (fun hc9 => ?_) (fun hc9 => ?_)
    · refine g_iconst cx d23_16 (v := (0 : Int32)) rfl ?_
      refine g_retZ cx d23_17 rfl rfl (by decide) (by decide) ?_
      exact ⟨by simp [own_zp, hc3, hc9], rfl⟩
    · refine g_iconst cx d23_12 (v := (1 : Int32)) rfl ?_
      refine g_goto cx d23_13 ?_
      refine g_retZ cx d23_17 rfl rfl (by decide) (by decide) ?_
      exact ⟨by simp [own_zp, hc3, hc9], rfl⟩
theorem d10_259 : Dc prog_20_method_6_code 259 (.iload 8) 2 261 := ⟨by decide +kernel, rfl⟩
theorem d10_261 : Dc prog_20_method_6_code 261 (.iload_n 1) 1 262 := ⟨by decide +kernel, rfl⟩
theorem d10_262 : Bi prog_20_method_6_code 262 (Instr.if_icmp .ne) 283 265 := ⟨21, by decide +kernel, by decide, by decide, rfl⟩
theorem d10_283 : Dc prog_20_method_6_code 283 (.aconst_null) 1 284 := ⟨by decide +kernel, rfl⟩
theorem d10_284 : Dc prog_20_method_6_code 284 (.areturn) 1 285 := ⟨by decide +kernel, rfl⟩
theorem d10_265 : Dc prog_20_method_6_code 265 (.new 68) 3 268 := ⟨by decide +kernel, rfl⟩
theorem d10_268 : Dc prog_20_method_6_code 268 (.dup) 1 269 := ⟨by decide +kernel, rfl⟩
theorem d10_269 : Dc prog_20_method_6_code 269 (.iload_n 2) 1 270 := ⟨by decide +kernel, rfl⟩
theorem d10_270 : Dc prog_20_method_6_code 270 (.iload_n 3) 1 271 := ⟨by decide +kernel, rfl⟩
theorem d10_271 : Dc prog_20_method_6_code 271 (.iload 5) 2 273 := ⟨by decide +kernel, rfl⟩
theorem d10_273 : Dc prog_20_method_6_code 273 (.iload 4) 2 275 := ⟨by decide +kernel, rfl⟩
theorem d10_275 : Dc prog_20_method_6_code 275 (.lload 6) 2 277 := ⟨by decide +kernel, rfl⟩
theorem pd_8 : parseMethodDescriptor "(ZIIIJ)V" = some ⟨[.boolean, .int, .int, .int, .long], none⟩ := by decide +kernel
theorem d10_277 : Dc prog_20_method_6_code 277 (.invokespecial 90) 3 280 := ⟨by decide +kernel, rfl⟩
theorem d10_280 : Bi prog_20_method_6_code 280 (Instr.goto) 284 283 := ⟨4, by decide +kernel, by decide, by decide, rfl⟩
theorem d10_118 : Dc prog_20_method_6_code 118 (.lconst 0) 1 119 := ⟨by decide +kernel, rfl⟩
theorem d10_119 : Dc prog_20_method_6_code 119 (.lstore 6) 2 121 := ⟨by decide +kernel, rfl⟩
theorem d10_121 : Dc prog_20_method_6_code 121 (.iload 4) 2 123 := ⟨by decide +kernel, rfl⟩
theorem d10_123 : Dc prog_20_method_6_code 123 (.istore 8) 2 125 := ⟨by decide +kernel, rfl⟩
theorem d10_125 : Dc prog_20_method_6_code 125 (.iload 8) 2 127 := ⟨by decide +kernel, rfl⟩
theorem d10_127 : Dc prog_20_method_6_code 127 (.iload_n 1) 1 128 := ⟨by decide +kernel, rfl⟩
theorem d10_128 : Bi prog_20_method_6_code 128 (Instr.if_icmp .ge) 259 131 := ⟨131, by decide +kernel, by decide, by decide, rfl⟩
theorem d10_131 : Dc prog_20_method_6_code 131 (.aload_n 0) 1 132 := ⟨by decide +kernel, rfl⟩
theorem d10_132 : Dc prog_20_method_6_code 132 (.iload 8) 2 134 := ⟨by decide +kernel, rfl⟩
theorem d10_134 : Dc prog_20_method_6_code 134 (.invokeinterface 19 2) 5 139 := ⟨by decide +kernel, rfl⟩
theorem d10_139 : Dc prog_20_method_6_code 139 (.bipush 101) 2 141 := ⟨by decide +kernel, rfl⟩
theorem d10_141 : Bi prog_20_method_6_code 141 (Instr.if_icmp .eq) 157 144 := ⟨16, by decide +kernel, by decide, by decide, rfl⟩
theorem d10_157 : Dc prog_20_method_6_code 157 (.iinc 8 1) 3 160 := ⟨by decide +kernel, rfl⟩
theorem d10_160 : Dc prog_20_method_6_code 160 (.iload 8) 2 162 := ⟨by decide +kernel, rfl⟩
theorem d10_162 : Dc prog_20_method_6_code 162 (.iload_n 1) 1 163 := ⟨by decide +kernel, rfl⟩
theorem d10_163 : Bi prog_20_method_6_code 163 (Instr.if_icmp .ge) 183 166 := ⟨20, by decide +kernel, by decide, by decide, rfl⟩
theorem d10_183 : Dc prog_20_method_6_code 183 (.iconst 0) 1 184 := ⟨by decide +kernel, rfl⟩
theorem d10_184 : Dc prog_20_method_6_code 184 (.istore 9) 2 186 := ⟨by decide +kernel, rfl⟩
theorem d10_186 : Dc prog_20_method_6_code 186 (.iload 8) 2 188 := ⟨by decide +kernel, rfl⟩
theorem d10_188 : Dc prog_20_method_6_code 188 (.iload_n 1) 1 189 := ⟨by decide +kernel, rfl⟩
theorem d10_189 : Bi prog_20_method_6_code 189 (Instr.if_icmp .ge) 213 192 := ⟨24, by decide +kernel, by decide, by decide, rfl⟩
theorem d10_213 : Dc prog_20_method_6_code 213 (.aload_n 0) 1 214 := ⟨by decide +kernel, rfl⟩
theorem d10_214 : Dc prog_20_method_6_code 214 (.iload 8) 2 216 := ⟨by decide +kernel, rfl⟩
theorem pd_9 : parseMethodDescriptor "(Ljava/lang/CharSequence;I)I" = some ⟨[(.object "java/lang/CharSequence"), .int], some .int⟩ := by decide +kernel
theorem d10_216 : Dc prog_20_method_6_code 216 (.invokestatic 23) 3 219 := ⟨by decide +kernel, rfl⟩
theorem d10_219 : Dc prog_20_method_6_code 219 (.istore 10) 2 221 := ⟨by decide +kernel, rfl⟩
theorem d10_221 : Dc prog_20_method_6_code 221 (.iload 10) 2 223 := ⟨by decide +kernel, rfl⟩
theorem d10_223 : Dc prog_20_method_6_code 223 (.iload 8) 2 225 := ⟨by decide +kernel, rfl⟩
theorem d10_225 : Bi prog_20_method_6_code 225 (Instr.if_icmp .ne) 230 228 := ⟨5, by decide +kernel, by decide, by decide, rfl⟩
theorem d10_230 : Dc prog_20_method_6_code 230 (.aload_n 0) 1 231 := ⟨by decide +kernel, rfl⟩
theorem d10_231 : Dc prog_20_method_6_code 231 (.iload 8) 2 233 := ⟨by decide +kernel, rfl⟩
theorem d10_233 : Dc prog_20_method_6_code 233 (.iload 10) 2 235 := ⟨by decide +kernel, rfl⟩
theorem pd_10 : parseMethodDescriptor "(Ljava/lang/CharSequence;II)J" = some ⟨[(.object "java/lang/CharSequence"), .int, .int], some .long⟩ := by decide +kernel
theorem d10_235 : Dc prog_20_method_6_code 235 (.invokestatic 87) 3 238 := ⟨by decide +kernel, rfl⟩
theorem d10_238 : Dc prog_20_method_6_code 238 (.lstore 6) 2 240 := ⟨by decide +kernel, rfl⟩
theorem d10_240 : Dc prog_20_method_6_code 240 (.iload 9) 2 242 := ⟨by decide +kernel, rfl⟩
theorem d10_242 : Bi prog_20_method_6_code 242 (Instr.ifCond .eq) 251 245 := ⟨9, by decide +kernel, by decide, by decide, rfl⟩
theorem d10_251 : Dc prog_20_method_6_code 251 (.lload 6) 2 253 := ⟨by decide +kernel, rfl⟩
theorem d10_253 : Dc prog_20_method_6_code 253 (.lstore 6) 2 255 := ⟨by decide +kernel, rfl⟩
theorem d10_255 : Dc prog_20_method_6_code 255 (.iload 10) 2 257 := ⟨by decide +kernel, rfl⟩
theorem d10_257 : Dc prog_20_method_6_code 257 (.istore 8) 2 259 := ⟨by decide +kernel, rfl⟩
theorem d10_228 : Dc prog_20_method_6_code 228 (.aconst_null) 1 229 := ⟨by decide +kernel, rfl⟩
theorem d10_229 : Dc prog_20_method_6_code 229 (.areturn) 1 230 := ⟨by decide +kernel, rfl⟩
theorem d10_166 : Dc prog_20_method_6_code 166 (.aload_n 0) 1 167 := ⟨by decide +kernel, rfl⟩
theorem d10_167 : Dc prog_20_method_6_code 167 (.iload 8) 2 169 := ⟨by decide +kernel, rfl⟩
theorem d10_169 : Dc prog_20_method_6_code 169 (.invokeinterface 19 2) 5 174 := ⟨by decide +kernel, rfl⟩
theorem d10_174 : Dc prog_20_method_6_code 174 (.bipush 45) 2 176 := ⟨by decide +kernel, rfl⟩
theorem d10_176 : Bi prog_20_method_6_code 176 (Instr.if_icmp .ne) 183 179 := ⟨7, by decide +kernel, by decide, by decide, rfl⟩
theorem d10_192 : Dc prog_20_method_6_code 192 (.iload 9) 2 194 := ⟨by decide +kernel, rfl⟩
theorem d10_194 : Bi prog_20_method_6_code 194 (Instr.ifCond .ne) 210 197 := ⟨16, by decide +kernel, by decide, by decide, rfl⟩
theorem d10_197 : Dc prog_20_method_6_code 197 (.aload_n 0) 1 198 := ⟨by decide +kernel, rfl⟩
theorem d10_198 : Dc prog_20_method_6_code 198 (.iload 8) 2 200 := ⟨by decide +kernel, rfl⟩
theorem d10_200 : Dc prog_20_method_6_code 200 (.invokeinterface 19 2) 5 205 := ⟨by decide +kernel, rfl⟩
theorem d10_205 : Dc prog_20_method_6_code 205 (.bipush 43) 2 207 := ⟨by decide +kernel, rfl⟩
theorem d10_207 : Bi prog_20_method_6_code 207 (Instr.if_icmp .ne) 213 210 := ⟨6, by decide +kernel, by decide, by decide, rfl⟩
theorem d10_210 : Dc prog_20_method_6_code 210 (.iinc 8 1) 3 213 := ⟨by decide +kernel, rfl⟩
theorem d10_179 : Dc prog_20_method_6_code 179 (.iconst 1) 1 180 := ⟨by decide +kernel, rfl⟩
theorem d10_180 : Bi prog_20_method_6_code 180 (Instr.goto) 184 183 := ⟨4, by decide +kernel, by decide, by decide, rfl⟩
theorem d10_245 : Dc prog_20_method_6_code 245 (.lload 6) 2 247 := ⟨by decide +kernel, rfl⟩
theorem d10_247 : Dc prog_20_method_6_code 247 (.lneg) 1 248 := ⟨by decide +kernel, rfl⟩
theorem d10_248 : Bi prog_20_method_6_code 248 (Instr.goto) 253 251 := ⟨5, by decide +kernel, by decide, by decide, rfl⟩
theorem d10_144 : Dc prog_20_method_6_code 144 (.aload_n 0) 1 145 := ⟨by decide +kernel, rfl⟩
theorem d10_145 : Dc prog_20_method_6_code 145 (.iload 8) 2 147 := ⟨by decide +kernel, rfl⟩
theorem d10_147 : Dc prog_20_method_6_code 147 (.invokeinterface 19 2) 5 152 := ⟨by decide +kernel, rfl⟩
theorem d10_152 : Dc prog_20_method_6_code 152 (.bipush 69) 2 154 := ⟨by decide +kernel, rfl⟩
theorem d10_154 : Bi prog_20_method_6_code 154 (Instr.if_icmp .ne) 259 157 := ⟨105, by decide +kernel, by decide, by decide, rfl⟩
theorem d10_39 : Dc prog_20_method_6_code 39 (.aload_n 0) 1 40 := ⟨by decide +kernel, rfl⟩
theorem d10_40 : Dc prog_20_method_6_code 40 (.iload_n 3) 1 41 := ⟨by decide +kernel, rfl⟩
theorem d10_41 : Dc prog_20_method_6_code 41 (.invokestatic 23) 3 44 := ⟨by decide +kernel, rfl⟩
theorem d10_44 : Dc prog_20_method_6_code 44 (.istore 4) 2 46 := ⟨by decide +kernel, rfl⟩
theorem d10_46 : Dc prog_20_method_6_code 46 (.iload 4) 2 48 := ⟨by decide +kernel, rfl⟩
theorem d10_48 : Dc prog_20_method_6_code 48 (.iload_n 3) 1 49 := ⟨by decide +kernel, rfl⟩
theorem d10_49 : Bi prog_20_method_6_code 49 (Instr.if_icmp .eq) 72 52 := ⟨23, by decide +kernel, by decide, by decide, rfl⟩
theorem d10_72 : Dc prog_20_method_6_code 72 (.aconst_null) 1 73 := ⟨by decide +kernel, rfl⟩
theorem d10_73 : Dc prog_20_method_6_code 73 (.areturn) 1 74 := ⟨by decide +kernel, rfl⟩
theorem d10_52 : Dc prog_20_method_6_code 52 (.aload_n 0) 1 53 := ⟨by decide +kernel, rfl⟩
theorem d10_53 : Dc prog_20_method_6_code 53 (.iload_n 3) 1 54 := ⟨by decide +kernel, rfl⟩
theorem d10_54 : Dc prog_20_method_6_code 54 (.invokeinterface 19 2) 5 59 := ⟨by decide +kernel, rfl⟩
theorem d10_59 : Dc prog_20_method_6_code 59 (.bipush 48) 2 61 := ⟨by decide +kernel, rfl⟩
theorem d10_61 : Bi prog_20_method_6_code 61 (Instr.if_icmp .ne) 74 64 := ⟨13, by decide +kernel, by decide, by decide, rfl⟩
theorem d10_74 : Dc prog_20_method_6_code 74 (.iload 4) 2 76 := ⟨by decide +kernel, rfl⟩
theorem d10_76 : Dc prog_20_method_6_code 76 (.istore 5) 2 78 := ⟨by decide +kernel, rfl⟩
theorem d10_78 : Dc prog_20_method_6_code 78 (.iload 4) 2 80 := ⟨by decide +kernel, rfl⟩
theorem d10_80 : Dc prog_20_method_6_code 80 (.iload_n 1) 1 81 := ⟨by decide +kernel, rfl⟩
theorem d10_81 : Bi prog_20_method_6_code 81 (Instr.if_icmp .ge) 118 84 := ⟨37, by decide +kernel, by decide, by decide, rfl⟩
theorem d10_84 : Dc prog_20_method_6_code 84 (.aload_n 0) 1 85 := ⟨by decide +kernel, rfl⟩
theorem d10_85 : Dc prog_20_method_6_code 85 (.iload 4) 2 87 := ⟨by decide +kernel, rfl⟩
theorem d10_87 : Dc prog_20_method_6_code 87 (.invokeinterface 19 2) 5 92 := ⟨by decide +kernel, rfl⟩
theorem d10_92 : Dc prog_20_method_6_code 92 (.bipush 46) 2 94 := ⟨by decide +kernel, rfl⟩
theorem d10_94 : Bi prog_20_method_6_code 94 (Instr.if_icmp .ne) 118 97 := ⟨24, by decide +kernel, by decide, by decide, rfl⟩
theorem d10_97 : Dc prog_20_method_6_code 97 (.aload_n 0) 1 98 := ⟨by decide +kernel, rfl⟩
theorem d10_98 : Dc prog_20_method_6_code 98 (.iload 5) 2 100 := ⟨by decide +kernel, rfl⟩
theorem d10_100 : Dc prog_20_method_6_code 100 (.iconst 1) 1 101 := ⟨by decide +kernel, rfl⟩
theorem d10_101 : Dc prog_20_method_6_code 101 (.iadd) 1 102 := ⟨by decide +kernel, rfl⟩
theorem d10_102 : Dc prog_20_method_6_code 102 (.invokestatic 23) 3 105 := ⟨by decide +kernel, rfl⟩
theorem d10_105 : Dc prog_20_method_6_code 105 (.istore 4) 2 107 := ⟨by decide +kernel, rfl⟩
theorem d10_107 : Dc prog_20_method_6_code 107 (.iload 4) 2 109 := ⟨by decide +kernel, rfl⟩
theorem d10_109 : Dc prog_20_method_6_code 109 (.iload 5) 2 111 := ⟨by decide +kernel, rfl⟩
theorem d10_111 : Dc prog_20_method_6_code 111 (.iconst 1) 1 112 := ⟨by decide +kernel, rfl⟩
theorem d10_112 : Dc prog_20_method_6_code 112 (.iadd) 1 113 := ⟨by decide +kernel, rfl⟩
theorem d10_113 : Bi prog_20_method_6_code 113 (Instr.if_icmp .ne) 118 116 := ⟨5, by decide +kernel, by decide, by decide, rfl⟩
theorem d10_116 : Dc prog_20_method_6_code 116 (.aconst_null) 1 117 := ⟨by decide +kernel, rfl⟩
theorem d10_117 : Dc prog_20_method_6_code 117 (.areturn) 1 118 := ⟨by decide +kernel, rfl⟩
theorem d10_64 : Dc prog_20_method_6_code 64 (.iload 4) 2 66 := ⟨by decide +kernel, rfl⟩
theorem d10_66 : Dc prog_20_method_6_code 66 (.iload_n 3) 1 67 := ⟨by decide +kernel, rfl⟩
theorem d10_67 : Dc prog_20_method_6_code 67 (.iconst 1) 1 68 := ⟨by decide +kernel, rfl⟩
theorem d10_68 : Dc prog_20_method_6_code 68 (.iadd) 1 69 := ⟨by decide +kernel, rfl⟩
theorem d10_69 : Bi prog_20_method_6_code 69 (Instr.if_icmp .le) 74 72 := ⟨5, by decide +kernel, by decide, by decide, rfl⟩
theorem d10_0 : Dc prog_20_method_6_code 0 (.aload_n 0) 1 1 := ⟨by decide +kernel, rfl⟩
theorem d10_1 : Dc prog_20_method_6_code 1 (.invokeinterface 13 1) 5 6 := ⟨by decide +kernel, rfl⟩
theorem d10_6 : Dc prog_20_method_6_code 6 (.istore_n 1) 1 7 := ⟨by decide +kernel, rfl⟩
theorem d10_7 : Dc prog_20_method_6_code 7 (.iload_n 1) 1 8 := ⟨by decide +kernel, rfl⟩
theorem d10_8 : Bi prog_20_method_6_code 8 (Instr.ifCond .le) 27 11 := ⟨19, by decide +kernel, by decide, by decide, rfl⟩
theorem d10_11 : Dc prog_20_method_6_code 11 (.aload_n 0) 1 12 := ⟨by decide +kernel, rfl⟩
theorem d10_12 : Dc prog_20_method_6_code 12 (.iconst 0) 1 13 := ⟨by decide +kernel, rfl⟩
theorem d10_13 : Dc prog_20_method_6_code 13 (.invokeinterface 19 2) 5 18 := ⟨by decide +kernel, rfl⟩
theorem d10_18 : Dc prog_20_method_6_code 18 (.bipush 45) 2 20 := ⟨by decide +kernel, rfl⟩
theorem d10_20 : Bi prog_20_method_6_code 20 (Instr.if_icmp .ne) 27 23 := ⟨7, by decide +kernel, by decide, by decide, rfl⟩
theorem d10_27 : Dc prog_20_method_6_code 27 (.iconst 0) 1 28 := ⟨by decide +kernel, rfl⟩
theorem d10_28 : Dc prog_20_method_6_code 28 (.istore_n 2) 1 29 := ⟨by decide +kernel, rfl⟩
theorem d10_29 : Dc prog_20_method_6_code 29 (.iload_n 2) 1 30 := ⟨by decide +kernel, rfl⟩
theorem d10_30 : Bi prog_20_method_6_code 30 (Instr.ifCond .eq) 37 33 := ⟨7, by decide +kernel, by decide, by decide, rfl⟩
theorem d10_37 : Dc prog_20_method_6_code 37 (.iconst 0) 1 38 := ⟨by decide +kernel, rfl⟩
theorem d10_38 : Dc prog_20_method_6_code 38 (.istore_n 3) 1 39 := ⟨by decide +kernel, rfl⟩
theorem d10_23 : Dc prog_20_method_6_code 23 (.iconst 1) 1 24 := ⟨by decide +kernel, rfl⟩
theorem d10_24 : Bi prog_20_method_6_code 24 (Instr.goto) 28 27 := ⟨4, by decide +kernel, by decide, by decide, rfl⟩
theorem d10_33 : Dc prog_20_method_6_code 33 (.iconst 1) 1 34 := ⟨by decide +kernel, rfl⟩
theorem d10_34 : Bi prog_20_method_6_code 34 (Instr.goto) 38 37 := ⟨4, by decide +kernel, by decide, by decide, rfl⟩
theorem pn_rmpa : plainName "com/example/crisp_typedef/crisptypedef/NumberText" = true := by first | (simp [plainName, overriddenIn]; done) | decide +kernel
set_option maxRecDepth 65536 in
set_option maxHeartbeats 40000000 in
theorem rmpa (l : Launch) (Z : State) (a0 : Array Value) (hw : ∀ d ∈ tables_1, d.before a0 Z = true) (cs : Int32) (SCS : Sta Z Z.heap "java/lang/String" "COMPACT_STRINGS" "Z" (.int cs)) (hcs : ¬ cs = (0 : Int32)) (fv : Value) (hfv : fv = .null ∨ ∃ fa, fv = .ref fa) (SFV : Sta Z Z.heap "jdk/internal/util/Preconditions" "SIOOBE_FORMATTER" "Ljava/util/function/BiFunction;" fv) (mm : Nat) (tx : Addr) (n : Int32) (ch : Nat → Int32) (h0 : Heap) (TT : own_T Z h0 mm tx n ch) (OL : Old Z Z.heap.size h0) :
    Met l Z (⟨"com/example/crisp_typedef/crisptypedef/NumberText", "parse", "(Ljava/lang/CharSequence;)Lcom/example/crisp_typedef/crisptypedef/NumberText$Parts;"⟩ : MethodName) prog_20_method_6_code 11 (some (.object "com/example/crisp_typedef/crisptypedef/NumberText$Parts")) ({ frames := 5, cells := 1, slots := 5, locals := 72 } : Room) #[(.ref tx)] h0 (fun v h' => (v = some .null ∧ Keep h0 h' []) ∨ (∃ (P : Addr) (ng sa po en : Int32) (xx : Int64), v = some (.ref P) ∧ Keep h0 h' [] ∧ h0.size ≤ P ∧ ObP Z h' P (.int ng) (.int sa) (.int po) (.int en) (.long xx) ∧ own_PP n ch sa en)) := by
  refine met_of (Ls := #[.val (.ref tx), .unset, .unset, .unset, .unset, .unset, .unset, .unset, .unset, .unset, .unset]) (plainFor_of_name pn_rmpa) (fun m => by first | (simp [entryFrame, mkF, argsToLocals, Value.category]; done) | rfl) (fun p e s m below meth c cx => ?_)
  obtain ⟨hmh, n1, n5, hch⟩ := own_Tn TT
  have O_tx := own_Tx TT
  have KK := Keep.refl h0 []
  have JE : ∀ (ng sa po en : Int32) (xx : Int64) (nx : Int32) (l9 l10 : Slot), 0 ≤ sa.toInt → sa.toInt ≤ 1 → (sa.toInt = 1 → (ch 0).toInt = 45) → sa.toInt ≤ en.toInt → en.toInt ≤ n.toInt → (∀ j : Nat, sa.toInt ≤ (j : Int) → (j : Int) < en.toInt → own_dp (ch j)) → (nx = n → (en.toInt = n.toInt ∨ (en.toInt < n.toInt ∧ own_ee (ch en.toNatClampNeg)))) → G p l e ({ frames := 5, cells := 1, slots := 5, locals := 72 } : Room) s m #[.ref tx] below meth c Z.heap.size (fun v h' => (v = some .null ∧ Keep h0 h' []) ∨ (∃ (P : Addr) (ng sa po en : Int32) (xx : Int64), v = some (.ref P) ∧ Keep h0 h' [] ∧ h0.size ≤ P ∧ ObP Z h' P (.int ng) (.int sa) (.int po) (.int en) (.long xx) ∧ own_PP n ch sa en)) h0 0 0 259 #[.val (.ref tx), .val (.int n), .val (.int ng), .val (.int sa), .val (.int en), .val (.int po), .val (.long xx), .second, .val (.int nx), l9, l10] [] := by
    intro ng sa po en xx nx l9 l10 f1 f2 f3 f4 f5 f6 hnn
    refine g_iload cx d10_259 rfl ?_
    refine g_iloadN cx d10_261 rfl ?_
    refine g_icmp_ne cx d10_262 (fun hc262 => ?_) (fun hc262 => ?_)
    · refine g_aconst_null cx d10_283 ?_
      refine g_retA cx d10_284 (t := (.object "com/example/crisp_typedef/crisptypedef/NumberText$Parts")) rfl rfl rfl rfl (by decide) (by decide) ?_
      exact Or.inl ⟨rfl, KK⟩
    · refine g_new cx d10_265 (hw _ (List.mem_of_getElem? (i := 86) rfl)) (hw _ (List.mem_of_getElem? (i := 87) rfl)) (hw _ (List.mem_of_getElem? (i := 88) rfl)) (k' := 1) (n' := 5) rfl rfl (by decide) (by decide) (fun h1 b2 gb3 E4 X5 D6 => ?_)
      have g_b2 : Z.heap.size ≤ b2 := by rw [gb3]; exact OL.2.1
      have sz_b2 := (by rw [gb3]; exact KK.1 : h0.size ≤ b2)
      have OL := OL.ext E4
      have _t := trivial
      have KK := KK.ext E4
      have O_b2 := ObP.new hw X5 D6
      refine g_dup cx d10_268 rfl ?_
      refine g_iloadN cx d10_269 rfl ?_
      refine g_iloadN cx d10_270 rfl ?_
      refine g_iload cx d10_271 rfl ?_
      refine g_iload cx d10_273 rfl ?_
      refine g_lload cx d10_275 rfl ?_
      refine g_specialRef cx (y := (⟨"com/example/crisp_typedef/crisptypedef/NumberText$Parts", "<init>", "(ZIIIJ)V"⟩ : MethodName)) (a := b2) d10_277 rfl rfl (hw _ (List.mem_of_getElem? (i := 89) rfl)) (hw _ (List.mem_of_getElem? (i := 90) rfl)) (hw _ (List.mem_of_getElem? (i := 88) rfl)) (hw _ (List.mem_of_getElem? (i := 91) rfl)) (by decide) (bytes := prog_21_method_1_code) (maxL' := 7) (M := (rmPI l Z a0 hw b2 ng sa po en xx _ O_b2 g_b2 OL)) rfl (lenOf pd_8 rfl) (by decide) (W := 1) (Nat.le_of_eq rfl) (by decide) (k' := 1) (n' := 5) rfl rfl (by decide) (by decide) (argsL := [(.int ng), (.int sa), (.int po), (.int en), (.long xx)]) (rest := [(.ref b2)]) rfl (fun v9 h8 q10 => ?_)
      obtain ⟨rfl, K7, O_b2⟩ := q10
      have OL := OL.keep K7 (allS g_b2 all0)
      have _t := trivial
      have KK := KK.trans K7 (allS (P := fun z => z ∈ _ ∨ _ ≤ z) (Or.inr sz_b2) all0)
      refine G.cast (st' := [(.ref b2)]) ?_ rfl
      refine g_goto cx d10_280 ?_
      refine g_retA cx d10_284 (t := (.object "com/example/crisp_typedef/crisptypedef/NumberText$Parts")) rfl rfl rfl rfl (by decide) (by decide) ?_
      exact Or.inr ⟨b2, _, sa, po, en, _, rfl, KK, sz_b2, O_b2, f1, f2, f3, f4, f5, f6, hnn hc262⟩
  have J118 : ∀ (ng sa po en : Int32), 0 ≤ sa.toInt → sa.toInt ≤ 1 → (sa.toInt = 1 → (ch 0).toInt = 45) → sa.toInt ≤ en.toInt → en.toInt ≤ n.toInt → (∀ j : Nat, sa.toInt ≤ (j : Int) → (j : Int) < en.toInt → own_dp (ch j)) → G p l e ({ frames := 5, cells := 1, slots := 5, locals := 72 } : Room) s m #[.ref tx] below meth c Z.heap.size (fun v h' => (v = some .null ∧ Keep h0 h' []) ∨ (∃ (P : Addr) (ng sa po en : Int32) (xx : Int64), v = some (.ref P) ∧ Keep h0 h' [] ∧ h0.size ≤ P ∧ ObP Z h' P (.int ng) (.int sa) (.int po) (.int en) (.long xx) ∧ own_PP n ch sa en)) h0 0 0 118 #[.val (.ref tx), .val (.int n), .val (.int ng), .val (.int sa), .val (.int en), .val (.int po), .unset, .unset, .unset, .unset, .unset] [] := by
    intro ng sa po en f1 f2 f3 f4 f5 f6
    refine g_lconst cx d10_118 (v := (0 : Int64)) rfl ?_
    refine g_lstore cx d10_119 (Ls' := #[.val (.ref tx), .val (.int n), .val (.int ng), .val (.int sa), .val (.int en), .val (.int po), .val (.long (0 : Int64)), .second, .unset, .unset, .unset]) rfl ?_
    refine g_iload cx d10_121 rfl ?_
    refine g_istore cx d10_123 (Ls' := #[.val (.ref tx), .val (.int n), .val (.int ng), .val (.int sa), .val (.int en), .val (.int po), .val (.long (0 : Int64)), .second, .val (.int en), .unset, .unset]) rfl ?_
    refine g_iload cx d10_125 rfl ?_
    refine g_iloadN cx d10_127 rfl ?_
    refine g_icmp_ge cx d10_128 (fun hc128 => ?_) (fun hc128 => ?_)
    · exact JE ng sa po en _ _ _ _ f1 f2 f3 f4 f5 f6 (fun q => Or.inl (congrArg Int32.toInt q))
    · refine g_aloadN cx d10_131 rfl rfl ?_
      refine g_iload cx d10_132 rfl ?_
      refine g_interface cx (x := (⟨"java/lang/CharSequence", "charAt", "(I)C"⟩ : MethodName)) (y := (⟨"java/lang/String", "charAt", "(I)C"⟩ : MethodName)) (a := tx) d10_134 (hw _ (List.mem_of_getElem? (i := 58) rfl)) (hw _ (List.mem_of_getElem? (i := 59) rfl)) (hw _ (List.mem_of_getElem? (i := 60) rfl)) (hw _ (List.mem_of_getElem? (i := 10) rfl)) (hw _ (List.mem_of_getElem? (i := 65) rfl)) (hw _ (List.mem_of_getElem? (i := 61) rfl)) (hw _ (List.mem_of_getElem? (i := 62) rfl)) (hw _ (List.mem_of_getElem? (i := 63) rfl)) (hw _ (List.mem_of_getElem? (i := 64) rfl)) (hw _ (List.mem_of_getElem? (i := 51) rfl)) (by decide) O_tx.1 (bytes := jdk_42_method_56_code) (maxL' := 2) (M := (rmca l Z a0 hw cs SCS hcs fv hfv SFV mm tx n ch _ TT OL en (fun q => by have i_hc128 : (en).toInt < (n).toInt := Int32.lt_iff_toInt_lt.mp hc128; have i_q : (en).toInt < ((0 : Int32)).toInt := Int32.lt_iff_toInt_lt.mp q; have r1 := rng32 en; have r2 := rng32 n; have e3 : (0 : Int32).toInt = 0 := rfl; omega) (Decidable.byContradiction fun q => by have i_hc128 : (en).toInt < (n).toInt := Int32.lt_iff_toInt_lt.mp hc128; have i_q : ¬ (en).toInt < (n).toInt := fun z => q (Int32.lt_iff_toInt_lt.mpr z); have r1 := rng32 en; have r2 := rng32 n; omega))) rfl (lenOf pd_6 rfl) (by decide) (W := 0) (Nat.le_of_eq rfl) (by decide) (k' := 0) (n' := 0) rfl rfl (by decide) (by decide) (argsL := [(.int en)]) (rest := []) rfl (fun v202 h201 q203 => ?_)
      obtain ⟨rfl, rfl⟩ := q203
      refine G.cast (st' := [(.int (ch en.toNatClampNeg))]) ?_ rfl
      refine g_bipush cx d10_139 (v := (101 : Int32)) rfl ?_
      refine g_icmp_eq cx d10_141 (fun hc141 => ?_) (fun hc141 => ?_)
      · refine g_iinc cx d10_157 rfl (v := (1 : Int32)) rfl (Ls' := #[.val (.ref tx), .val (.int n), .val (.int ng), .val (.int sa), .val (.int en), .val (.int po), .val (.long (0 : Int64)), .second, .val (.int (en + (1 : Int32))), .unset, .unset]) rfl ?_
        refine g_iload cx d10_160 rfl ?_
        refine g_iloadN cx d10_162 rfl ?_
        refine g_icmp_ge cx d10_163 (fun hc163 => ?_) (fun hc163 => ?_)
        · refine g_iconst cx d10_183 (v := (0 : Int32)) rfl ?_
          refine g_istore cx d10_184 (Ls' := #[.val (.ref tx), .val (.int n), .val (.int ng), .val (.int sa), .val (.int en), .val (.int po), .val (.long (0 : Int64)), .second, .val (.int (en + (1 : Int32))), .val (.int (0 : Int32)), .unset]) rfl ?_
          refine g_iload cx d10_186 rfl ?_
          refine g_iloadN cx d10_188 rfl ?_
          refine g_icmp_ge cx d10_189 (fun hc189 => ?_) (fun q => absurd q (fun q => hc163 q))
          refine g_aloadN cx d10_213 rfl rfl ?_
          refine g_iload cx d10_214 rfl ?_
          refine g_static cx (y := (⟨"com/example/crisp_typedef/crisptypedef/NumberText", "digitsEnd", "(Ljava/lang/CharSequence;I)I"⟩ : MethodName)) d10_216 (hw _ (List.mem_of_getElem? (i := 83) rfl)) (hw _ (List.mem_of_getElem? (i := 84) rfl)) (hw _ (List.mem_of_getElem? (i := 39) rfl)) (hw _ (List.mem_of_getElem? (i := 85) rfl)) (by decide) (bytes := prog_20_method_7_code) (maxL' := 3) (M := (rmde l Z a0 hw cs SCS hcs fv hfv SFV mm tx n ch _ TT OL (en + (1 : Int32)) (by have i_hc128 : (en).toInt < (n).toInt := Int32.lt_iff_toInt_lt.mp hc128; have i_hc141 : ((ch en.toNatClampNeg)).toInt = ((101 : Int32)).toInt := congrArg Int32.toInt hc141; have i_hc163 : ¬ ((en + (1 : Int32))).toInt < (n).toInt := fun z => hc163 (Int32.lt_iff_toInt_lt.mpr z); have i_hc189 : ¬ ((en + (1 : Int32))).toInt < (n).toInt := fun z => hc189 (Int32.lt_iff_toInt_lt.mpr z); have r2 := rng32 en; have e3 : (1 : Int32).toInt = 1 := rfl; have e1 := c_iadd en (1 : Int32); have r1 := rng32 (en + (1 : Int32)); have r4 := rng32 n; have r5 := rng32 (ch en.toNatClampNeg); have e6 : (101 : Int32).toInt = 101 := rfl; omega) (by have i_hc128 : (en).toInt < (n).toInt := Int32.lt_iff_toInt_lt.mp hc128; have i_hc141 : ((ch en.toNatClampNeg)).toInt = ((101 : Int32)).toInt := congrArg Int32.toInt hc141; have i_hc163 : ¬ ((en + (1 : Int32))).toInt < (n).toInt := fun z => hc163 (Int32.lt_iff_toInt_lt.mpr z); have i_hc189 : ¬ ((en + (1 : Int32))).toInt < (n).toInt := fun z => hc189 (Int32.lt_iff_toInt_lt.mpr z); have r2 := rng32 en; have e3 : (1 : Int32).toInt = 1 := rfl; have e1 := c_iadd en (1 : Int32); have r1 := rng32 (en + (1 : Int32)); have r4 := rng32 n; have r5 := rng32 (ch en.toNatClampNeg); have e6 : (101 : Int32).toInt = 101 := rfl; omega))) rfl (lenOf pd_9 rfl) (by decide) (W := 0) (Nat.le_of_eq rfl) (by decide) (k' := 0) (n' := 0) rfl rfl (by decide) (by decide) (argsL := [(.ref tx), (.int (en + (1 : Int32)))]) (rest := []) rfl (fun v206 h205 q207 => ?_)
          obtain ⟨r204, rfl, rfl, r2040, r204f, r204n, r204D⟩ := q207
          refine G.cast (st' := [(.int r204)]) ?_ rfl
          refine g_istore cx d10_219 (Ls' := #[.val (.ref tx), .val (.int n), .val (.int ng), .val (.int sa), .val (.int en), .val (.int po), .val (.long (0 : Int64)), .second, .val (.int (en + (1 : Int32))), .val (.int (0 : Int32)), .val (.int r204)]) rfl ?_
          refine g_iload cx d10_221 rfl ?_
          refine g_iload cx d10_223 rfl ?_
          refine g_icmp_ne cx d10_225 (fun hc225 => ?_) (fun hc225 => ?_)
          · refine g_aloadN cx d10_230 rfl rfl ?_
            refine g_iload cx d10_231 rfl ?_
            refine g_iload cx d10_233 rfl ?_
            refine g_static cx (y := (⟨"com/example/crisp_typedef/crisptypedef/NumberText", "exponent", "(Ljava/lang/CharSequence;II)J"⟩ : MethodName)) d10_235 (hw _ (List.mem_of_getElem? (i := 164) rfl)) (hw _ (List.mem_of_getElem? (i := 165) rfl)) (hw _ (List.mem_of_getElem? (i := 39) rfl)) (hw _ (List.mem_of_getElem? (i := 166) rfl)) (by decide) (bytes := prog_20_method_8_code) (maxL' := 6) (M := (rmex l Z a0 hw cs SCS hcs fv hfv SFV mm tx n ch _ TT OL (en + (1 : Int32)) r204 (by have i_hc128 : (en).toInt < (n).toInt := Int32.lt_iff_toInt_lt.mp hc128; have i_hc141 : ((ch en.toNatClampNeg)).toInt = ((101 : Int32)).toInt := congrArg Int32.toInt hc141; have i_hc163 : ¬ ((en + (1 : Int32))).toInt < (n).toInt := fun z => hc163 (Int32.lt_iff_toInt_lt.mpr z); have i_hc189 : ¬ ((en + (1 : Int32))).toInt < (n).toInt := fun z => hc189 (Int32.lt_iff_toInt_lt.mpr z); have i_hc225 : ¬ (r204).toInt = ((en + (1 : Int32))).toInt := fun z => hc225 (Int32.toInt_inj.mp z); have r2 := rng32 en; have e3 : (1 : Int32).toInt = 1 := rfl; have e1 := c_iadd en (1 : Int32); have r1 := rng32 (en + (1 : Int32)); have r4 := rng32 r204; have r5 := rng32 n; have r6 := rng32 (ch en.toNatClampNeg); have e7 : (101 : Int32).toInt = 101 := rfl; omega) (by have i_hc128 : (en).toInt < (n).toInt := Int32.lt_iff_toInt_lt.mp hc128; have i_hc141 : ((ch en.toNatClampNeg)).toInt = ((101 : Int32)).toInt := congrArg Int32.toInt hc141; have i_hc163 : ¬ ((en + (1 : Int32))).toInt < (n).toInt := fun z => hc163 (Int32.lt_iff_toInt_lt.mpr z); have i_hc189 : ¬ ((en + (1 : Int32))).toInt < (n).toInt := fun z => hc189 (Int32.lt_iff_toInt_lt.mpr z); have i_hc225 : ¬ (r204).toInt = ((en + (1 : Int32))).toInt := fun z => hc225 (Int32.toInt_inj.mp z); have r2 := rng32 en; have e3 : (1 : Int32).toInt = 1 := rfl; have e1 := c_iadd en (1 : Int32); have r1 := rng32 (en + (1 : Int32)); have r4 := rng32 r204; have r5 := rng32 n; have r6 := rng32 (ch en.toNatClampNeg); have e7 : (101 : Int32).toInt = 101 := rfl; omega))) rfl (lenOf pd_10 rfl) (by decide) (W := 0) (Nat.le_of_eq rfl) (by decide) (k' := 0) (n' := 0) rfl rfl (by decide) (by decide) (argsL := [(.ref tx), (.int (en + (1 : Int32))), (.int r204)]) (rest := []) rfl (fun v210 h209 q211 => ?_)
            obtain ⟨x208, rfl, rfl⟩ := q211
            refine G.cast (st' := [(.long x208)]) ?_ rfl
            refine g_lstore cx d10_238 (Ls' := #[.val (.ref tx), .val (.int n), .val (.int ng), .val (.int sa), .val (.int en), .val (.int po), .val (.long x208), .second, .val (.int (en + (1 : Int32))), .val (.int (0 : Int32)), .val (.int r204)]) rfl ?_
            refine g_iload cx d10_240 rfl ?_
            refine g_if_eq cx d10_242 (fun hc242 => ?_) (fun q => absurd q (fun q => by revert q; decide))
            refine g_lload cx d10_251 rfl ?_
            refine g_lstore cx d10_253 (Ls' := #[.val (.ref tx), .val (.int n), .val (.int ng), .val (.int sa), .val (.int en), .val (.int po), .val (.long x208), .second, .val (.int (en + (1 : Int32))), .val (.int (0 : Int32)), .val (.int r204)]) rfl ?_
            refine g_iload cx d10_255 rfl ?_
            refine g_istore cx d10_257 (Ls' := #[.val (.ref tx), .val (.int n), .val (.int ng), .val (.int sa), .val (.int en), .val (.int po), .val (.long x208), .second, .val (.int r204), .val (.int (0 : Int32)), .val (.int r204)]) rfl ?_
            exact JE ng sa po en _ _ _ _ f1 f2 f3 f4 f5 f6 (fun _ => Or.inr ⟨Int32.lt_iff_toInt_lt.mp hc128, Or.inl (by rw [hc141]; rfl)⟩)
          · refine g_aconst_null cx d10_228 ?_
            refine g_retA cx d10_229 (t := (.object "com/example/crisp_typedef/crisptypedef/NumberText$Parts")) rfl rfl rfl rfl (by decide) (by decide) ?_
            exact Or.inl ⟨rfl, KK⟩
        · refine g_aloadN cx d10_166 rfl rfl ?_
          refine g_iload cx d10_167 rfl ?_
          refine g_interface cx (x := (⟨"java/lang/CharSequence", "charAt", "(I)C"⟩ : MethodName)) (y := (⟨"java/lang/String", "charAt", "(I)C"⟩ : MethodName)) (a := tx) d10_169 (hw _ (List.mem_of_getElem? (i := 58) rfl)) (hw _ (List.mem_of_getElem? (i := 59) rfl)) (hw _ (List.mem_of_getElem? (i := 60) rfl)) (hw _ (List.mem_of_getElem? (i := 10) rfl)) (hw _ (List.mem_of_getElem? (i := 65) rfl)) (hw _ (List.mem_of_getElem? (i := 61) rfl)) (hw _ (List.mem_of_getElem? (i := 62) rfl)) (hw _ (List.mem_of_getElem? (i := 63) rfl)) (hw _ (List.mem_of_getElem? (i := 64) rfl)) (hw _ (List.mem_of_getElem? (i := 51) rfl)) (by decide) O_tx.1 (bytes := jdk_42_method_56_code) (maxL' := 2) (M := (rmca l Z a0 hw cs SCS hcs fv hfv SFV mm tx n ch _ TT OL (en + (1 : Int32)) (fun q => by have i_hc128 : (en).toInt < (n).toInt := Int32.lt_iff_toInt_lt.mp hc128; have i_hc141 : ((ch en.toNatClampNeg)).toInt = ((101 : Int32)).toInt := congrArg Int32.toInt hc141; have i_hc163 : ((en + (1 : Int32))).toInt < (n).toInt := Int32.lt_iff_toInt_lt.mp hc163; have i_q : ((en + (1 : Int32))).toInt < ((0 : Int32)).toInt := Int32.lt_iff_toInt_lt.mp q; have r1 := rng32 en; have r2 := rng32 n; have r3 := rng32 (ch en.toNatClampNeg); have e4 : (101 : Int32).toInt = 101 := rfl; have e6 : (1 : Int32).toInt = 1 := rfl; have e5 := c_iadd en (1 : Int32); have r5 := rng32 (en + (1 : Int32)); have e7 : (0 : Int32).toInt = 0 := rfl; omega) (Decidable.byContradiction fun q => by have i_hc128 : (en).toInt < (n).toInt := Int32.lt_iff_toInt_lt.mp hc128; have i_hc141 : ((ch en.toNatClampNeg)).toInt = ((101 : Int32)).toInt := congrArg Int32.toInt hc141; have i_hc163 : ((en + (1 : Int32))).toInt < (n).toInt := Int32.lt_iff_toInt_lt.mp hc163; have i_q : ¬ ((en + (1 : Int32))).toInt < (n).toInt := fun z => q (Int32.lt_iff_toInt_lt.mpr z); have r1 := rng32 en; have r2 := rng32 n; have r3 := rng32 (ch en.toNatClampNeg); have e4 : (101 : Int32).toInt = 101 := rfl; have e6 : (1 : Int32).toInt = 1 := rfl; have e5 := c_iadd en (1 : Int32); have r5 := rng32 (en + (1 : Int32)); omega))) rfl (lenOf pd_6 rfl) (by decide) (W := 0) (Nat.le_of_eq rfl) (by decide) (k' := 0) (n' := 0) rfl rfl (by decide) (by decide) (argsL := [(.int (en + (1 : Int32)))]) (rest := []) rfl (fun v213 h212 q214 => ?_)
          obtain ⟨rfl, rfl⟩ := q214
          refine G.cast (st' := [(.int (ch (en + (1 : Int32)).toNatClampNeg))]) ?_ rfl
          refine g_bipush cx d10_174 (v := (45 : Int32)) rfl ?_
          refine g_icmp_ne cx d10_176 (fun hc176 => ?_) (fun hc176 => ?_)
          · refine g_iconst cx d10_183 (v := (0 : Int32)) rfl ?_
            refine g_istore cx d10_184 (Ls' := #[.val (.ref tx), .val (.int n), .val (.int ng), .val (.int sa), .val (.int en), .val (.int po), .val (.long (0 : Int64)), .second, .val (.int (en + (1 : Int32))), .val (.int (0 : Int32)), .unset]) rfl ?_
            refine g_iload cx d10_186 rfl ?_
            refine g_iloadN cx d10_188 rfl ?_
            refine g_icmp_ge cx d10_189 (fun q => absurd q (fun q => q hc163)) (fun hc189 => ?_)
            refine g_iload cx d10_192 rfl ?_
            refine g_if_ne cx d10_194 (fun q => absurd q (fun q => by revert q; decide)) (fun hc194 => ?_)
            refine g_aloadN cx d10_197 rfl rfl ?_
            refine g_iload cx d10_198 rfl ?_
            refine g_interface cx (x := (⟨"java/lang/CharSequence", "charAt", "(I)C"⟩ : MethodName)) (y := (⟨"java/lang/String", "charAt", "(I)C"⟩ : MethodName)) (a := tx) d10_200 (hw _ (List.mem_of_getElem? (i := 58) rfl)) (hw _ (List.mem_of_getElem? (i := 59) rfl)) (hw _ (List.mem_of_getElem? (i := 60) rfl)) (hw _ (List.mem_of_getElem? (i := 10) rfl)) (hw _ (List.mem_of_getElem? (i := 65) rfl)) (hw _ (List.mem_of_getElem? (i := 61) rfl)) (hw _ (List.mem_of_getElem? (i := 62) rfl)) (hw _ (List.mem_of_getElem? (i := 63) rfl)) (hw _ (List.mem_of_getElem? (i := 64) rfl)) (hw _ (List.mem_of_getElem? (i := 51) rfl)) (by decide) O_tx.1 (bytes := jdk_42_method_56_code) (maxL' := 2) (M := (rmca l Z a0 hw cs SCS hcs fv hfv SFV mm tx n ch _ TT OL (en + (1 : Int32)) (fun q => by have i_hc128 : (en).toInt < (n).toInt := Int32.lt_iff_toInt_lt.mp hc128; have i_hc141 : ((ch en.toNatClampNeg)).toInt = ((101 : Int32)).toInt := congrArg Int32.toInt hc141; have i_hc163 : ((en + (1 : Int32))).toInt < (n).toInt := Int32.lt_iff_toInt_lt.mp hc163; have i_hc176 : ¬ ((ch (en + (1 : Int32)).toNatClampNeg)).toInt = ((45 : Int32)).toInt := fun z => hc176 (Int32.toInt_inj.mp z); have i_hc189 : ((en + (1 : Int32))).toInt < (n).toInt := Int32.lt_iff_toInt_lt.mp hc189; have i_hc194 : ((0 : Int32)).toInt = ((0 : Int32)).toInt := congrArg Int32.toInt hc194; have i_q : ((en + (1 : Int32))).toInt < ((0 : Int32)).toInt := Int32.lt_iff_toInt_lt.mp q; have r1 := rng32 en; have r2 := rng32 n; have r3 := rng32 (ch en.toNatClampNeg); have e4 : (101 : Int32).toInt = 101 := rfl; have e6 : (1 : Int32).toInt = 1 := rfl; have e5 := c_iadd en (1 : Int32); have r5 := rng32 (en + (1 : Int32)); have r7 := rng32 (ch (en + (1 : Int32)).toNatClampNeg); have e8 : (45 : Int32).toInt = 45 := rfl; have e9 : (0 : Int32).toInt = 0 := rfl; omega) (Decidable.byContradiction fun q => by have i_hc128 : (en).toInt < (n).toInt := Int32.lt_iff_toInt_lt.mp hc128; have i_hc141 : ((ch en.toNatClampNeg)).toInt = ((101 : Int32)).toInt := congrArg Int32.toInt hc141; have i_hc163 : ((en + (1 : Int32))).toInt < (n).toInt := Int32.lt_iff_toInt_lt.mp hc163; have i_hc176 : ¬ ((ch (en + (1 : Int32)).toNatClampNeg)).toInt = ((45 : Int32)).toInt := fun z => hc176 (Int32.toInt_inj.mp z); have i_hc189 : ((en + (1 : Int32))).toInt < (n).toInt := Int32.lt_iff_toInt_lt.mp hc189; have i_hc194 : ((0 : Int32)).toInt = ((0 : Int32)).toInt := congrArg Int32.toInt hc194; have i_q : ¬ ((en + (1 : Int32))).toInt < (n).toInt := fun z => q (Int32.lt_iff_toInt_lt.mpr z); have r1 := rng32 en; have r2 := rng32 n; have r3 := rng32 (ch en.toNatClampNeg); have e4 : (101 : Int32).toInt = 101 := rfl; have e6 : (1 : Int32).toInt = 1 := rfl; have e5 := c_iadd en (1 : Int32); have r5 := rng32 (en + (1 : Int32)); have r7 := rng32 (ch (en + (1 : Int32)).toNatClampNeg); have e8 : (45 : Int32).toInt = 45 := rfl; have e9 : (0 : Int32).toInt = 0 := rfl; omega))) rfl (lenOf pd_6 rfl) (by decide) (W := 0) (Nat.le_of_eq rfl) (by decide) (k' := 0) (n' := 0) rfl rfl (by decide) (by decide) (argsL := [(.int (en + (1 : Int32)))]) (rest := []) rfl (fun v216 h215 q217 => ?_)
            obtain ⟨rfl, rfl⟩ := q217
            refine G.cast (st' := [(.int (ch (en + (1 : Int32)).toNatClampNeg))]) ?_ rfl
            refine g_bipush cx d10_205 (v := (43 : Int32)) rfl ?_
            refine g_icmp_ne cx d10_207 (fun hc207 => ?_) (fun hc207 => ?_)
            · refine g_aloadN cx d10_213 rfl rfl ?_
              refine g_iload cx d10_214 rfl ?_
              refine g_static cx (y := (⟨"com/example/crisp_typedef/crisptypedef/NumberText", "digitsEnd", "(Ljava/lang/CharSequence;I)I"⟩ : MethodName)) d10_216 (hw _ (List.mem_of_getElem? (i := 83) rfl)) (hw _ (List.mem_of_getElem? (i := 84) rfl)) (hw _ (List.mem_of_getElem? (i := 39) rfl)) (hw _ (List.mem_of_getElem? (i := 85) rfl)) (by decide) (bytes := prog_20_method_7_code) (maxL' := 3) (M := (rmde l Z a0 hw cs SCS hcs fv hfv SFV mm tx n ch _ TT OL (en + (1 : Int32)) (by have i_hc128 : (en).toInt < (n).toInt := Int32.lt_iff_toInt_lt.mp hc128; have i_hc141 : ((ch en.toNatClampNeg)).toInt = ((101 : Int32)).toInt := congrArg Int32.toInt hc141; have i_hc163 : ((en + (1 : Int32))).toInt < (n).toInt := Int32.lt_iff_toInt_lt.mp hc163; have i_hc176 : ¬ ((ch (en + (1 : Int32)).toNatClampNeg)).toInt = ((45 : Int32)).toInt := fun z => hc176 (Int32.toInt_inj.mp z); have i_hc189 : ((en + (1 : Int32))).toInt < (n).toInt := Int32.lt_iff_toInt_lt.mp hc189; have i_hc194 : ((0 : Int32)).toInt = ((0 : Int32)).toInt := congrArg Int32.toInt hc194; have i_hc207 : ¬ ((ch (en + (1 : Int32)).toNatClampNeg)).toInt = ((43 : Int32)).toInt := fun z => hc207 (Int32.toInt_inj.mp z); have r2 := rng32 en; have e3 : (1 : Int32).toInt = 1 := rfl; have e1 := c_iadd en (1 : Int32); have r1 := rng32 (en + (1 : Int32)); have r4 := rng32 n; have r5 := rng32 (ch en.toNatClampNeg); have e6 : (101 : Int32).toInt = 101 := rfl; have r7 := rng32 (ch (en + (1 : Int32)).toNatClampNeg); have e8 : (45 : Int32).toInt = 45 := rfl; have e9 : (0 : Int32).toInt = 0 := rfl; have e10 : (43 : Int32).toInt = 43 := rfl; omega) (by have i_hc128 : (en).toInt < (n).toInt := Int32.lt_iff_toInt_lt.mp hc128; have i_hc141 : ((ch en.toNatClampNeg)).toInt = ((101 : Int32)).toInt := congrArg Int32.toInt hc141; have i_hc163 : ((en + (1 : Int32))).toInt < (n).toInt := Int32.lt_iff_toInt_lt.mp hc163; have i_hc176 : ¬ ((ch (en + (1 : Int32)).toNatClampNeg)).toInt = ((45 : Int32)).toInt := fun z => hc176 (Int32.toInt_inj.mp z); have i_hc189 : ((en + (1 : Int32))).toInt < (n).toInt := Int32.lt_iff_toInt_lt.mp hc189; have i_hc194 : ((0 : Int32)).toInt = ((0 : Int32)).toInt := congrArg Int32.toInt hc194; have i_hc207 : ¬ ((ch (en + (1 : Int32)).toNatClampNeg)).toInt = ((43 : Int32)).toInt := fun z => hc207 (Int32.toInt_inj.mp z); have r2 := rng32 en; have e3 : (1 : Int32).toInt = 1 := rfl; have e1 := c_iadd en (1 : Int32); have r1 := rng32 (en + (1 : Int32)); have r4 := rng32 n; have r5 := rng32 (ch en.toNatClampNeg); have e6 : (101 : Int32).toInt = 101 := rfl; have r7 := rng32 (ch (en + (1 : Int32)).toNatClampNeg); have e8 : (45 : Int32).toInt = 45 := rfl; have e9 : (0 : Int32).toInt = 0 := rfl; have e10 : (43 : Int32).toInt = 43 := rfl; omega))) rfl (lenOf pd_9 rfl) (by decide) (W := 0) (Nat.le_of_eq rfl) (by decide) (k' := 0) (n' := 0) rfl rfl (by decide) (by decide) (argsL := [(.ref tx), (.int (en + (1 : Int32)))]) (rest := []) rfl (fun v220 h219 q221 => ?_)
              obtain ⟨r218, rfl, rfl, r2180, r218f, r218n, r218D⟩ := q221
              refine G.cast (st' := [(.int r218)]) ?_ rfl
              refine g_istore cx d10_219 (Ls' := #[.val (.ref tx), .val (.int n), .val (.int ng), .val (.int sa), .val (.int en), .val (.int po), .val (.long (0 : Int64)), .second, .val (.int (en + (1 : Int32))), .val (.int (0 : Int32)), .val (.int r218)]) rfl ?_
              refine g_iload cx d10_221 rfl ?_
              refine g_iload cx d10_223 rfl ?_
              refine g_icmp_ne cx d10_225 (fun hc225 => ?_) (fun hc225 => ?_)
              · refine g_aloadN cx d10_230 rfl rfl ?_
                refine g_iload cx d10_231 rfl ?_
                refine g_iload cx d10_233 rfl ?_
                refine g_static cx (y := (⟨"com/example/crisp_typedef/crisptypedef/NumberText", "exponent", "(Ljava/lang/CharSequence;II)J"⟩ : MethodName)) d10_235 (hw _ (List.mem_of_getElem? (i := 164) rfl)) (hw _ (List.mem_of_getElem? (i := 165) rfl)) (hw _ (List.mem_of_getElem? (i := 39) rfl)) (hw _ (List.mem_of_getElem? (i := 166) rfl)) (by decide) (bytes := prog_20_method_8_code) (maxL' := 6) (M := (rmex l Z a0 hw cs SCS hcs fv hfv SFV mm tx n ch _ TT OL (en + (1 : Int32)) r218 (by have i_hc128 : (en).toInt < (n).toInt := Int32.lt_iff_toInt_lt.mp hc128; have i_hc141 : ((ch en.toNatClampNeg)).toInt = ((101 : Int32)).toInt := congrArg Int32.toInt hc141; have i_hc163 : ((en + (1 : Int32))).toInt < (n).toInt := Int32.lt_iff_toInt_lt.mp hc163; have i_hc176 : ¬ ((ch (en + (1 : Int32)).toNatClampNeg)).toInt = ((45 : Int32)).toInt := fun z => hc176 (Int32.toInt_inj.mp z); have i_hc189 : ((en + (1 : Int32))).toInt < (n).toInt := Int32.lt_iff_toInt_lt.mp hc189; have i_hc194 : ((0 : Int32)).toInt = ((0 : Int32)).toInt := congrArg Int32.toInt hc194; have i_hc207 : ¬ ((ch (en + (1 : Int32)).toNatClampNeg)).toInt = ((43 : Int32)).toInt := fun z => hc207 (Int32.toInt_inj.mp z); have i_hc225 : ¬ (r218).toInt = ((en + (1 : Int32))).toInt := fun z => hc225 (Int32.toInt_inj.mp z); have r2 := rng32 en; have e3 : (1 : Int32).toInt = 1 := rfl; have e1 := c_iadd en (1 : Int32); have r1 := rng32 (en + (1 : Int32)); have r4 := rng32 r218; have r5 := rng32 n; have r6 := rng32 (ch en.toNatClampNeg); have e7 : (101 : Int32).toInt = 101 := rfl; have r8 := rng32 (ch (en + (1 : Int32)).toNatClampNeg); have e9 : (45 : Int32).toInt = 45 := rfl; have e10 : (0 : Int32).toInt = 0 := rfl; have e11 : (43 : Int32).toInt = 43 := rfl; omega) (by have i_hc128 : (en).toInt < (n).toInt := Int32.lt_iff_toInt_lt.mp hc128; have i_hc141 : ((ch en.toNatClampNeg)).toInt = ((101 : Int32)).toInt := congrArg Int32.toInt hc141; have i_hc163 : ((en + (1 : Int32))).toInt < (n).toInt := Int32.lt_iff_toInt_lt.mp hc163; have i_hc176 : ¬ ((ch (en + (1 : Int32)).toNatClampNeg)).toInt = ((45 : Int32)).toInt := fun z => hc176 (Int32.toInt_inj.mp z); have i_hc189 : ((en + (1 : Int32))).toInt < (n).toInt := Int32.lt_iff_toInt_lt.mp hc189; have i_hc194 : ((0 : Int32)).toInt = ((0 : Int32)).toInt := congrArg Int32.toInt hc194; have i_hc207 : ¬ ((ch (en + (1 : Int32)).toNatClampNeg)).toInt = ((43 : Int32)).toInt := fun z => hc207 (Int32.toInt_inj.mp z); have i_hc225 : ¬ (r218).toInt = ((en + (1 : Int32))).toInt := fun z => hc225 (Int32.toInt_inj.mp z); have r2 := rng32 en; have e3 : (1 : Int32).toInt = 1 := rfl; have e1 := c_iadd en (1 : Int32); have r1 := rng32 (en + (1 : Int32)); have r4 := rng32 r218; have r5 := rng32 n; have r6 := rng32 (ch en.toNatClampNeg); have e7 : (101 : Int32).toInt = 101 := rfl; have r8 := rng32 (ch (en + (1 : Int32)).toNatClampNeg); have e9 : (45 : Int32).toInt = 45 := rfl; have e10 : (0 : Int32).toInt = 0 := rfl; have e11 : (43 : Int32).toInt = 43 := rfl; omega))) rfl (lenOf pd_10 rfl) (by decide) (W := 0) (Nat.le_of_eq rfl) (by decide) (k' := 0) (n' := 0) rfl rfl (by decide) (by decide) (argsL := [(.ref tx), (.int (en + (1 : Int32))), (.int r218)]) (rest := []) rfl (fun v224 h223 q225 => ?_)
                obtain ⟨x222, rfl, rfl⟩ := q225
                refine G.cast (st' := [(.long x222)]) ?_ rfl
                refine g_lstore cx d10_238 (Ls' := #[.val (.ref tx), .val (.int n), .val (.int ng), .val (.int sa), .val (.int en), .val (.int po), .val (.long x222), .second, .val (.int (en + (1 : Int32))), .val (.int (0 : Int32)), .val (.int r218)]) rfl ?_
                refine g_iload cx d10_240 rfl ?_
                refine g_if_eq cx d10_242 (fun hc242 => ?_) (fun q => absurd q (fun q => by revert q; decide))
                refine g_lload cx d10_251 rfl ?_
                refine g_lstore cx d10_253 (Ls' := #[.val (.ref tx), .val (.int n), .val (.int ng), .val (.int sa), .val (.int en), .val (.int po), .val (.long x222), .second, .val (.int (en + (1 : Int32))), .val (.int (0 : Int32)), .val (.int r218)]) rfl ?_
                refine g_iload cx d10_255 rfl ?_
                refine g_istore cx d10_257 (Ls' := #[.val (.ref tx), .val (.int n), .val (.int ng), .val (.int sa), .val (.int en), .val (.int po), .val (.long x222), .second, .val (.int r218), .val (.int (0 : Int32)), .val (.int r218)]) rfl ?_
                exact JE ng sa po en _ _ _ _ f1 f2 f3 f4 f5 f6 (fun _ => Or.inr ⟨Int32.lt_iff_toInt_lt.mp hc128, Or.inl (by rw [hc141]; rfl)⟩)
              · refine g_aconst_null cx d10_228 ?_
                refine g_retA cx d10_229 (t := (.object "com/example/crisp_typedef/crisptypedef/NumberText$Parts")) rfl rfl rfl rfl (by decide) (by decide) ?_
                exact Or.inl ⟨rfl, KK⟩
            · refine g_iinc cx d10_210 rfl (v := (1 : Int32)) rfl (Ls' := #[.val (.ref tx), .val (.int n), .val (.int ng), .val (.int sa), .val (.int en), .val (.int po), .val (.long (0 : Int64)), .second, .val (.int ((en + (1 : Int32)) + (1 : Int32))), .val (.int (0 : Int32)), .unset]) rfl ?_
              refine g_aloadN cx d10_213 rfl rfl ?_
              refine g_iload cx d10_214 rfl ?_
              refine g_static cx (y := (⟨"com/example/crisp_typedef/crisptypedef/NumberText", "digitsEnd", "(Ljava/lang/CharSequence;I)I"⟩ : MethodName)) d10_216 (hw _ (List.mem_of_getElem? (i := 83) rfl)) (hw _ (List.mem_of_getElem? (i := 84) rfl)) (hw _ (List.mem_of_getElem? (i := 39) rfl)) (hw _ (List.mem_of_getElem? (i := 85) rfl)) (by decide) (bytes := prog_20_method_7_code) (maxL' := 3) (M := (rmde l Z a0 hw cs SCS hcs fv hfv SFV mm tx n ch _ TT OL ((en + (1 : Int32)) + (1 : Int32)) (by have i_hc128 : (en).toInt < (n).toInt := Int32.lt_iff_toInt_lt.mp hc128; have i_hc141 : ((ch en.toNatClampNeg)).toInt = ((101 : Int32)).toInt := congrArg Int32.toInt hc141; have i_hc163 : ((en + (1 : Int32))).toInt < (n).toInt := Int32.lt_iff_toInt_lt.mp hc163; have i_hc176 : ¬ ((ch (en + (1 : Int32)).toNatClampNeg)).toInt = ((45 : Int32)).toInt := fun z => hc176 (Int32.toInt_inj.mp z); have i_hc189 : ((en + (1 : Int32))).toInt < (n).toInt := Int32.lt_iff_toInt_lt.mp hc189; have i_hc194 : ((0 : Int32)).toInt = ((0 : Int32)).toInt := congrArg Int32.toInt hc194; have i_hc207 : ((ch (en + (1 : Int32)).toNatClampNeg)).toInt = ((43 : Int32)).toInt := congrArg Int32.toInt hc207; have r3 := rng32 en; have e4 : (1 : Int32).toInt = 1 := rfl; have e2 := c_iadd en (1 : Int32); have r2 := rng32 (en + (1 : Int32)); have e1 := c_iadd (en + (1 : Int32)) (1 : Int32); have r1 := rng32 ((en + (1 : Int32)) + (1 : Int32)); have r5 := rng32 n; have r6 := rng32 (ch en.toNatClampNeg); have e7 : (101 : Int32).toInt = 101 := rfl; have r8 := rng32 (ch (en + (1 : Int32)).toNatClampNeg); have e9 : (45 : Int32).toInt = 45 := rfl; have e10 : (0 : Int32).toInt = 0 := rfl; have e11 : (43 : Int32).toInt = 43 := rfl; omega) (by have i_hc128 : (en).toInt < (n).toInt := Int32.lt_iff_toInt_lt.mp hc128; have i_hc141 : ((ch en.toNatClampNeg)).toInt = ((101 : Int32)).toInt := congrArg Int32.toInt hc141; have i_hc163 : ((en + (1 : Int32))).toInt < (n).toInt := Int32.lt_iff_toInt_lt.mp hc163; have i_hc176 : ¬ ((ch (en + (1 : Int32)).toNatClampNeg)).toInt = ((45 : Int32)).toInt := fun z => hc176 (Int32.toInt_inj.mp z); have i_hc189 : ((en + (1 : Int32))).toInt < (n).toInt := Int32.lt_iff_toInt_lt.mp hc189; have i_hc194 : ((0 : Int32)).toInt = ((0 : Int32)).toInt := congrArg Int32.toInt hc194; have i_hc207 : ((ch (en + (1 : Int32)).toNatClampNeg)).toInt = ((43 : Int32)).toInt := congrArg Int32.toInt hc207; have r3 := rng32 en; have e4 : (1 : Int32).toInt = 1 := rfl; have e2 := c_iadd en (1 : Int32); have r2 := rng32 (en + (1 : Int32)); have e1 := c_iadd (en + (1 : Int32)) (1 : Int32); have r1 := rng32 ((en + (1 : Int32)) + (1 : Int32)); have r5 := rng32 n; have r6 := rng32 (ch en.toNatClampNeg); have e7 : (101 : Int32).toInt = 101 := rfl; have r8 := rng32 (ch (en + (1 : Int32)).toNatClampNeg); have e9 : (45 : Int32).toInt = 45 := rfl; have e10 : (0 : Int32).toInt = 0 := rfl; have e11 : (43 : Int32).toInt = 43 := rfl; omega))) rfl (lenOf pd_9 rfl) (by decide) (W := 0) (Nat.le_of_eq rfl) (by decide) (k' := 0) (n' := 0) rfl rfl (by decide) (by decide) (argsL := [(.ref tx), (.int ((en + (1 : Int32)) + (1 : Int32)))]) (rest := []) rfl (fun v228 h227 q229 => ?_)
              obtain ⟨r226, rfl, rfl, r2260, r226f, r226n, r226D⟩ := q229
              refine G.cast (st' := [(.int r226)]) ?_ rfl
              refine g_istore cx d10_219 (Ls' := #[.val (.ref tx), .val (.int n), .val (.int ng), .val (.int sa), .val (.int en), .val (.int po), .val (.long (0 : Int64)), .second, .val (.int ((en + (1 : Int32)) + (1 : Int32))), .val (.int (0 : Int32)), .val (.int r226)]) rfl ?_
              refine g_iload cx d10_221 rfl ?_
              refine g_iload cx d10_223 rfl ?_
              refine g_icmp_ne cx d10_225 (fun hc225 => ?_) (fun hc225 => ?_)
              · refine g_aloadN cx d10_230 rfl rfl ?_
                refine g_iload cx d10_231 rfl ?_
                refine g_iload cx d10_233 rfl ?_
                refine g_static cx (y := (⟨"com/example/crisp_typedef/crisptypedef/NumberText", "exponent", "(Ljava/lang/CharSequence;II)J"⟩ : MethodName)) d10_235 (hw _ (List.mem_of_getElem? (i := 164) rfl)) (hw _ (List.mem_of_getElem? (i := 165) rfl)) (hw _ (List.mem_of_getElem? (i := 39) rfl)) (hw _ (List.mem_of_getElem? (i := 166) rfl)) (by decide) (bytes := prog_20_method_8_code) (maxL' := 6) (M := (rmex l Z a0 hw cs SCS hcs fv hfv SFV mm tx n ch _ TT OL ((en + (1 : Int32)) + (1 : Int32)) r226 (by have i_hc128 : (en).toInt < (n).toInt := Int32.lt_iff_toInt_lt.mp hc128; have i_hc141 : ((ch en.toNatClampNeg)).toInt = ((101 : Int32)).toInt := congrArg Int32.toInt hc141; have i_hc163 : ((en + (1 : Int32))).toInt < (n).toInt := Int32.lt_iff_toInt_lt.mp hc163; have i_hc176 : ¬ ((ch (en + (1 : Int32)).toNatClampNeg)).toInt = ((45 : Int32)).toInt := fun z => hc176 (Int32.toInt_inj.mp z); have i_hc189 : ((en + (1 : Int32))).toInt < (n).toInt := Int32.lt_iff_toInt_lt.mp hc189; have i_hc194 : ((0 : Int32)).toInt = ((0 : Int32)).toInt := congrArg Int32.toInt hc194; have i_hc207 : ((ch (en + (1 : Int32)).toNatClampNeg)).toInt = ((43 : Int32)).toInt := congrArg Int32.toInt hc207; have i_hc225 : ¬ (r226).toInt = (((en + (1 : Int32)) + (1 : Int32))).toInt := fun z => hc225 (Int32.toInt_inj.mp z); have r3 := rng32 en; have e4 : (1 : Int32).toInt = 1 := rfl; have e2 := c_iadd en (1 : Int32); have r2 := rng32 (en + (1 : Int32)); have e1 := c_iadd (en + (1 : Int32)) (1 : Int32); have r1 := rng32 ((en + (1 : Int32)) + (1 : Int32)); have r5 := rng32 r226; have r6 := rng32 n; have r7 := rng32 (ch en.toNatClampNeg); have e8 : (101 : Int32).toInt = 101 := rfl; have r9 := rng32 (ch (en + (1 : Int32)).toNatClampNeg); have e10 : (45 : Int32).toInt = 45 := rfl; have e11 : (0 : Int32).toInt = 0 := rfl; have e12 : (43 : Int32).toInt = 43 := rfl; omega) (by have i_hc128 : (en).toInt < (n).toInt := Int32.lt_iff_toInt_lt.mp hc128; have i_hc141 : ((ch en.toNatClampNeg)).toInt = ((101 : Int32)).toInt := congrArg Int32.toInt hc141; have i_hc163 : ((en + (1 : Int32))).toInt < (n).toInt := Int32.lt_iff_toInt_lt.mp hc163; have i_hc176 : ¬ ((ch (en + (1 : Int32)).toNatClampNeg)).toInt = ((45 : Int32)).toInt := fun z => hc176 (Int32.toInt_inj.mp z); have i_hc189 : ((en + (1 : Int32))).toInt < (n).toInt := Int32.lt_iff_toInt_lt.mp hc189; have i_hc194 : ((0 : Int32)).toInt = ((0 : Int32)).toInt := congrArg Int32.toInt hc194; have i_hc207 : ((ch (en + (1 : Int32)).toNatClampNeg)).toInt = ((43 : Int32)).toInt := congrArg Int32.toInt hc207; have i_hc225 : ¬ (r226).toInt = (((en + (1 : Int32)) + (1 : Int32))).toInt := fun z => hc225 (Int32.toInt_inj.mp z); have r3 := rng32 en; have e4 : (1 : Int32).toInt = 1 := rfl; have e2 := c_iadd en (1 : Int32); have r2 := rng32 (en + (1 : Int32)); have e1 := c_iadd (en + (1 : Int32)) (1 : Int32); have r1 := rng32 ((en + (1 : Int32)) + (1 : Int32)); have r5 := rng32 r226; have r6 := rng32 n; have r7 := rng32 (ch en.toNatClampNeg); have e8 : (101 : Int32).toInt = 101 := rfl; have r9 := rng32 (ch (en + (1 : Int32)).toNatClampNeg); have e10 : (45 : Int32).toInt = 45 := rfl; have e11 : (0 : Int32).toInt = 0 := rfl; have e12 : (43 : Int32).toInt = 43 := rfl; omega))) rfl (lenOf pd_10 rfl) (by decide) (W := 0) (Nat.le_of_eq rfl) (by decide) (k' := 0) (n' := 0) rfl rfl (by decide) (by decide) (argsL := [(.ref tx), (.int ((en + (1 : Int32)) + (1 : Int32))), (.int r226)]) (rest := []) rfl (fun v232 h231 q233 => ?_)
                obtain ⟨x230, rfl, rfl⟩ := q233
                refine G.cast (st' := [(.long x230)]) ?_ rfl
                refine g_lstore cx d10_238 (Ls' := #[.val (.ref tx), .val (.int n), .val (.int ng), .val (.int sa), .val (.int en), .val (.int po), .val (.long x230), .second, .val (.int ((en + (1 : Int32)) + (1 : Int32))), .val (.int (0 : Int32)), .val (.int r226)]) rfl ?_
                refine g_iload cx d10_240 rfl ?_
                refine g_if_eq cx d10_242 (fun hc242 => ?_) (fun q => absurd q (fun q => by revert q; decide))
                refine g_lload cx d10_251 rfl ?_
                refine g_lstore cx d10_253 (Ls' := #[.val (.ref tx), .val (.int n), .val (.int ng), .val (.int sa), .val (.int en), .val (.int po), .val (.long x230), .second, .val (.int ((en + (1 : Int32)) + (1 : Int32))), .val (.int (0 : Int32)), .val (.int r226)]) rfl ?_
                refine g_iload cx d10_255 rfl ?_
                refine g_istore cx d10_257 (Ls' := #[.val (.ref tx), .val (.int n), .val (.int ng), .val (.int sa), .val (.int en), .val (.int po), .val (.long x230), .second, .val (.int r226), .val (.int (0 : Int32)), .val (.int r226)]) rfl ?_
                exact JE ng sa po en _ _ _ _ f1 f2 f3 f4 f5 f6 (fun _ => Or.inr ⟨Int32.lt_iff_toInt_lt.mp hc128, Or.inl (by rw [hc141]; rfl)⟩)
              · refine g_aconst_null cx d10_228 ?_
                refine g_retA cx d10_229 (t := (.object "com/example/crisp_typedef/crisptypedef/NumberText$Parts")) rfl rfl rfl rfl (by decide) (by decide) ?_
                exact Or.inl ⟨rfl, KK⟩
          · refine g_iconst cx d10_179 (v := (1 : Int32)) rfl ?_
            refine g_goto cx d10_180 ?_
            refine g_istore cx d10_184 (Ls' := #[.val (.ref tx), .val (.int n), .val (.int ng), .val (.int sa), .val (.int en), .val (.int po), .val (.long (0 : Int64)), .second, .val (.int (en + (1 : Int32))), .val (.int (1 : Int32)), .unset]) rfl ?_
            refine g_iload cx d10_186 rfl ?_
            refine g_iloadN cx d10_188 rfl ?_
            refine g_icmp_ge cx d10_189 (fun q => absurd q (fun q => q hc163)) (fun hc189 => ?_)
            refine g_iload cx d10_192 rfl ?_
            refine g_if_ne cx d10_194 (fun hc194 => ?_) (fun q => absurd q (fun q => by revert q; decide))
            refine g_iinc cx d10_210 rfl (v := (1 : Int32)) rfl (Ls' := #[.val (.ref tx), .val (.int n), .val (.int ng), .val (.int sa), .val (.int en), .val (.int po), .val (.long (0 : Int64)), .second, .val (.int ((en + (1 : Int32)) + (1 : Int32))), .val (.int (1 : Int32)), .unset]) rfl ?_
            refine g_aloadN cx d10_213 rfl rfl ?_
            refine g_iload cx d10_214 rfl ?_
            refine g_static cx (y := (⟨"com/example/crisp_typedef/crisptypedef/NumberText", "digitsEnd", "(Ljava/lang/CharSequence;I)I"⟩ : MethodName)) d10_216 (hw _ (List.mem_of_getElem? (i := 83) rfl)) (hw _ (List.mem_of_getElem? (i := 84) rfl)) (hw _ (List.mem_of_getElem? (i := 39) rfl)) (hw _ (List.mem_of_getElem? (i := 85) rfl)) (by decide) (bytes := prog_20_method_7_code) (maxL' := 3) (M := (rmde l Z a0 hw cs SCS hcs fv hfv SFV mm tx n ch _ TT OL ((en + (1 : Int32)) + (1 : Int32)) (by have i_hc128 : (en).toInt < (n).toInt := Int32.lt_iff_toInt_lt.mp hc128; have i_hc141 : ((ch en.toNatClampNeg)).toInt = ((101 : Int32)).toInt := congrArg Int32.toInt hc141; have i_hc163 : ((en + (1 : Int32))).toInt < (n).toInt := Int32.lt_iff_toInt_lt.mp hc163; have i_hc176 : ((ch (en + (1 : Int32)).toNatClampNeg)).toInt = ((45 : Int32)).toInt := congrArg Int32.toInt hc176; have i_hc189 : ((en + (1 : Int32))).toInt < (n).toInt := Int32.lt_iff_toInt_lt.mp hc189; have i_hc194 : ¬ ((1 : Int32)).toInt = ((0 : Int32)).toInt := fun z => hc194 (Int32.toInt_inj.mp z); have r3 := rng32 en; have e4 : (1 : Int32).toInt = 1 := rfl; have e2 := c_iadd en (1 : Int32); have r2 := rng32 (en + (1 : Int32)); have e1 := c_iadd (en + (1 : Int32)) (1 : Int32); have r1 := rng32 ((en + (1 : Int32)) + (1 : Int32)); have r5 := rng32 n; have r6 := rng32 (ch en.toNatClampNeg); have e7 : (101 : Int32).toInt = 101 := rfl; have r8 := rng32 (ch (en + (1 : Int32)).toNatClampNeg); have e9 : (45 : Int32).toInt = 45 := rfl; have e10 : (0 : Int32).toInt = 0 := rfl; omega) (by have i_hc128 : (en).toInt < (n).toInt := Int32.lt_iff_toInt_lt.mp hc128; have i_hc141 : ((ch en.toNatClampNeg)).toInt = ((101 : Int32)).toInt := congrArg Int32.toInt hc141; have i_hc163 : ((en + (1 : Int32))).toInt < (n).toInt := Int32.lt_iff_toInt_lt.mp hc163; have i_hc176 : ((ch (en + (1 : Int32)).toNatClampNeg)).toInt = ((45 : Int32)).toInt := congrArg Int32.toInt hc176; have i_hc189 : ((en + (1 : Int32))).toInt < (n).toInt := Int32.lt_iff_toInt_lt.mp hc189; have i_hc194 : ¬ ((1 : Int32)).toInt = ((0 : Int32)).toInt := fun z => hc194 (Int32.toInt_inj.mp z); have r3 := rng32 en; have e4 : (1 : Int32).toInt = 1 := rfl; have e2 := c_iadd en (1 : Int32); have r2 := rng32 (en + (1 : Int32)); have e1 := c_iadd (en + (1 : Int32)) (1 : Int32); have r1 := rng32 ((en + (1 : Int32)) + (1 : Int32)); have r5 := rng32 n; have r6 := rng32 (ch en.toNatClampNeg); have e7 : (101 : Int32).toInt = 101 := rfl; have r8 := rng32 (ch (en + (1 : Int32)).toNatClampNeg); have e9 : (45 : Int32).toInt = 45 := rfl; have e10 : (0 : Int32).toInt = 0 := rfl; omega))) rfl (lenOf pd_9 rfl) (by decide) (W := 0) (Nat.le_of_eq rfl) (by decide) (k' := 0) (n' := 0) rfl rfl (by decide) (by decide) (argsL := [(.ref tx), (.int ((en + (1 : Int32)) + (1 : Int32)))]) (rest := []) rfl (fun v236 h235 q237 => ?_)
            obtain ⟨r234, rfl, rfl, r2340, r234f, r234n, r234D⟩ := q237
            refine G.cast (st' := [(.int r234)]) ?_ rfl
            refine g_istore cx d10_219 (Ls' := #[.val (.ref tx), .val (.int n), .val (.int ng), .val (.int sa), .val (.int en), .val (.int po), .val (.long (0 : Int64)), .second, .val (.int ((en + (1 : Int32)) + (1 : Int32))), .val (.int (1 : Int32)), .val (.int r234)]) rfl ?_
            refine g_iload cx d10_221 rfl ?_
            refine g_iload cx d10_223 rfl ?_
            refine g_icmp_ne cx d10_225 (fun hc225 => ?_) (fun hc225 => ?_)
            · refine g_aloadN cx d10_230 rfl rfl ?_
              refine g_iload cx d10_231 rfl ?_
              refine g_iload cx d10_233 rfl ?_
              refine g_static cx (y := (⟨"com/example/crisp_typedef/crisptypedef/NumberText", "exponent", "(Ljava/lang/CharSequence;II)J"⟩ : MethodName)) d10_235 (hw _ (List.mem_of_getElem? (i := 164) rfl)) (hw _ (List.mem_of_getElem? (i := 165) rfl)) (hw _ (List.mem_of_getElem? (i := 39) rfl)) (hw _ (List.mem_of_getElem? (i := 166) rfl)) (by decide) (bytes := prog_20_method_8_code) (maxL' := 6) (M := (rmex l Z a0 hw cs SCS hcs fv hfv SFV mm tx n ch _ TT OL ((en + (1 : Int32)) + (1 : Int32)) r234 (by have i_hc128 : (en).toInt < (n).toInt := Int32.lt_iff_toInt_lt.mp hc128; have i_hc141 : ((ch en.toNatClampNeg)).toInt = ((101 : Int32)).toInt := congrArg Int32.toInt hc141; have i_hc163 : ((en + (1 : Int32))).toInt < (n).toInt := Int32.lt_iff_toInt_lt.mp hc163; have i_hc176 : ((ch (en + (1 : Int32)).toNatClampNeg)).toInt = ((45 : Int32)).toInt := congrArg Int32.toInt hc176; have i_hc189 : ((en + (1 : Int32))).toInt < (n).toInt := Int32.lt_iff_toInt_lt.mp hc189; have i_hc194 : ¬ ((1 : Int32)).toInt = ((0 : Int32)).toInt := fun z => hc194 (Int32.toInt_inj.mp z); have i_hc225 : ¬ (r234).toInt = (((en + (1 : Int32)) + (1 : Int32))).toInt := fun z => hc225 (Int32.toInt_inj.mp z); have r3 := rng32 en; have e4 : (1 : Int32).toInt = 1 := rfl; have e2 := c_iadd en (1 : Int32); have r2 := rng32 (en + (1 : Int32)); have e1 := c_iadd (en + (1 : Int32)) (1 : Int32); have r1 := rng32 ((en + (1 : Int32)) + (1 : Int32)); have r5 := rng32 r234; have r6 := rng32 n; have r7 := rng32 (ch en.toNatClampNeg); have e8 : (101 : Int32).toInt = 101 := rfl; have r9 := rng32 (ch (en + (1 : Int32)).toNatClampNeg); have e10 : (45 : Int32).toInt = 45 := rfl; have e11 : (0 : Int32).toInt = 0 := rfl; omega) (by have i_hc128 : (en).toInt < (n).toInt := Int32.lt_iff_toInt_lt.mp hc128; have i_hc141 : ((ch en.toNatClampNeg)).toInt = ((101 : Int32)).toInt := congrArg Int32.toInt hc141; have i_hc163 : ((en + (1 : Int32))).toInt < (n).toInt := Int32.lt_iff_toInt_lt.mp hc163; have i_hc176 : ((ch (en + (1 : Int32)).toNatClampNeg)).toInt = ((45 : Int32)).toInt := congrArg Int32.toInt hc176; have i_hc189 : ((en + (1 : Int32))).toInt < (n).toInt := Int32.lt_iff_toInt_lt.mp hc189; have i_hc194 : ¬ ((1 : Int32)).toInt = ((0 : Int32)).toInt := fun z => hc194 (Int32.toInt_inj.mp z); have i_hc225 : ¬ (r234).toInt = (((en + (1 : Int32)) + (1 : Int32))).toInt := fun z => hc225 (Int32.toInt_inj.mp z); have r3 := rng32 en; have e4 : (1 : Int32).toInt = 1 := rfl; have e2 := c_iadd en (1 : Int32); have r2 := rng32 (en + (1 : Int32)); have e1 := c_iadd (en + (1 : Int32)) (1 : Int32); have r1 := rng32 ((en + (1 : Int32)) + (1 : Int32)); have r5 := rng32 r234; have r6 := rng32 n; have r7 := rng32 (ch en.toNatClampNeg); have e8 : (101 : Int32).toInt = 101 := rfl; have r9 := rng32 (ch (en + (1 : Int32)).toNatClampNeg); have e10 : (45 : Int32).toInt = 45 := rfl; have e11 : (0 : Int32).toInt = 0 := rfl; omega))) rfl (lenOf pd_10 rfl) (by decide) (W := 0) (Nat.le_of_eq rfl) (by decide) (k' := 0) (n' := 0) rfl rfl (by decide) (by decide) (argsL := [(.ref tx), (.int ((en + (1 : Int32)) + (1 : Int32))), (.int r234)]) (rest := []) rfl (fun v240 h239 q241 => ?_)
              obtain ⟨x238, rfl, rfl⟩ := q241
              refine G.cast (st' := [(.long x238)]) ?_ rfl
              refine g_lstore cx d10_238 (Ls' := #[.val (.ref tx), .val (.int n), .val (.int ng), .val (.int sa), .val (.int en), .val (.int po), .val (.long x238), .second, .val (.int ((en + (1 : Int32)) + (1 : Int32))), .val (.int (1 : Int32)), .val (.int r234)]) rfl ?_
              refine g_iload cx d10_240 rfl ?_
              refine g_if_eq cx d10_242 (fun q => absurd q (fun q => by revert q; decide)) (fun hc242 => ?_)
              refine g_lload cx d10_245 rfl ?_
              refine g_lneg cx d10_247 ?_
              refine g_goto cx d10_248 ?_
              refine g_lstore cx d10_253 (Ls' := #[.val (.ref tx), .val (.int n), .val (.int ng), .val (.int sa), .val (.int en), .val (.int po), .val (.long (-x238)), .second, .val (.int ((en + (1 : Int32)) + (1 : Int32))), .val (.int (1 : Int32)), .val (.int r234)]) rfl ?_
              refine g_iload cx d10_255 rfl ?_
              refine g_istore cx d10_257 (Ls' := #[.val (.ref tx), .val (.int n), .val (.int ng), .val (.int sa), .val (.int en), .val (.int po), .val (.long (-x238)), .second, .val (.int r234), .val (.int (1 : Int32)), .val (.int r234)]) rfl ?_
              exact JE ng sa po en _ _ _ _ f1 f2 f3 f4 f5 f6 (fun _ => Or.inr ⟨Int32.lt_iff_toInt_lt.mp hc128, Or.inl (by rw [hc141]; rfl)⟩)
            · refine g_aconst_null cx d10_228 ?_
              refine g_retA cx d10_229 (t := (.object "com/example/crisp_typedef/crisptypedef/NumberText$Parts")) rfl rfl rfl rfl (by decide) (by decide) ?_
              exact Or.inl ⟨rfl, KK⟩
      · refine g_aloadN cx d10_144 rfl rfl ?_
        refine g_iload cx d10_145 rfl ?_
        refine g_interface cx (x := (⟨"java/lang/CharSequence", "charAt", "(I)C"⟩ : MethodName)) (y := (⟨"java/lang/String", "charAt", "(I)C"⟩ : MethodName)) (a := tx) d10_147 (hw _ (List.mem_of_getElem? (i := 58) rfl)) (hw _ (List.mem_of_getElem? (i := 59) rfl)) (hw _ (List.mem_of_getElem? (i := 60) rfl)) (hw _ (List.mem_of_getElem? (i := 10) rfl)) (hw _ (List.mem_of_getElem? (i := 65) rfl)) (hw _ (List.mem_of_getElem? (i := 61) rfl)) (hw _ (List.mem_of_getElem? (i := 62) rfl)) (hw _ (List.mem_of_getElem? (i := 63) rfl)) (hw _ (List.mem_of_getElem? (i := 64) rfl)) (hw _ (List.mem_of_getElem? (i := 51) rfl)) (by decide) O_tx.1 (bytes := jdk_42_method_56_code) (maxL' := 2) (M := (rmca l Z a0 hw cs SCS hcs fv hfv SFV mm tx n ch _ TT OL en (fun q => by have i_hc128 : (en).toInt < (n).toInt := Int32.lt_iff_toInt_lt.mp hc128; have i_hc141 : ¬ ((ch en.toNatClampNeg)).toInt = ((101 : Int32)).toInt := fun z => hc141 (Int32.toInt_inj.mp z); have i_q : (en).toInt < ((0 : Int32)).toInt := Int32.lt_iff_toInt_lt.mp q; have r1 := rng32 en; have r2 := rng32 n; have r3 := rng32 (ch en.toNatClampNeg); have e4 : (101 : Int32).toInt = 101 := rfl; have e5 : (0 : Int32).toInt = 0 := rfl; omega) (Decidable.byContradiction fun q => by have i_hc128 : (en).toInt < (n).toInt := Int32.lt_iff_toInt_lt.mp hc128; have i_hc141 : ¬ ((ch en.toNatClampNeg)).toInt = ((101 : Int32)).toInt := fun z => hc141 (Int32.toInt_inj.mp z); have i_q : ¬ (en).toInt < (n).toInt := fun z => q (Int32.lt_iff_toInt_lt.mpr z); have r1 := rng32 en; have r2 := rng32 n; have r3 := rng32 (ch en.toNatClampNeg); have e4 : (101 : Int32).toInt = 101 := rfl; omega))) rfl (lenOf pd_6 rfl) (by decide) (W := 0) (Nat.le_of_eq rfl) (by decide) (k' := 0) (n' := 0) rfl rfl (by decide) (by decide) (argsL := [(.int en)]) (rest := []) rfl (fun v243 h242 q244 => ?_)
        obtain ⟨rfl, rfl⟩ := q244
        refine G.cast (st' := [(.int (ch en.toNatClampNeg))]) ?_ rfl
        refine g_bipush cx d10_152 (v := (69 : Int32)) rfl ?_
        refine g_icmp_ne cx d10_154 (fun hc154 => ?_) (fun hc154 => ?_)
        · exact JE ng sa po en _ _ _ _ f1 f2 f3 f4 f5 f6 (fun q => Or.inl (congrArg Int32.toInt q))
        · refine g_iinc cx d10_157 rfl (v := (1 : Int32)) rfl (Ls' := #[.val (.ref tx), .val (.int n), .val (.int ng), .val (.int sa), .val (.int en), .val (.int po), .val (.long (0 : Int64)), .second, .val (.int (en + (1 : Int32))), .unset, .unset]) rfl ?_
          refine g_iload cx d10_160 rfl ?_
          refine g_iloadN cx d10_162 rfl ?_
          refine g_icmp_ge cx d10_163 (fun hc163 => ?_) (fun hc163 => ?_)
          · refine g_iconst cx d10_183 (v := (0 : Int32)) rfl ?_
            refine g_istore cx d10_184 (Ls' := #[.val (.ref tx), .val (.int n), .val (.int ng), .val (.int sa), .val (.int en), .val (.int po), .val (.long (0 : Int64)), .second, .val (.int (en + (1 : Int32))), .val (.int (0 : Int32)), .unset]) rfl ?_
            refine g_iload cx d10_186 rfl ?_
            refine g_iloadN cx d10_188 rfl ?_
            refine g_icmp_ge cx d10_189 (fun hc189 => ?_) (fun q => absurd q (fun q => hc163 q))
            refine g_aloadN cx d10_213 rfl rfl ?_
            refine g_iload cx d10_214 rfl ?_
            refine g_static cx (y := (⟨"com/example/crisp_typedef/crisptypedef/NumberText", "digitsEnd", "(Ljava/lang/CharSequence;I)I"⟩ : MethodName)) d10_216 (hw _ (List.mem_of_getElem? (i := 83) rfl)) (hw _ (List.mem_of_getElem? (i := 84) rfl)) (hw _ (List.mem_of_getElem? (i := 39) rfl)) (hw _ (List.mem_of_getElem? (i := 85) rfl)) (by decide) (bytes := prog_20_method_7_code) (maxL' := 3) (M := (rmde l Z a0 hw cs SCS hcs fv hfv SFV mm tx n ch _ TT OL (en + (1 : Int32)) (by have i_hc128 : (en).toInt < (n).toInt := Int32.lt_iff_toInt_lt.mp hc128; have i_hc141 : ¬ ((ch en.toNatClampNeg)).toInt = ((101 : Int32)).toInt := fun z => hc141 (Int32.toInt_inj.mp z); have i_hc154 : ((ch en.toNatClampNeg)).toInt = ((69 : Int32)).toInt := congrArg Int32.toInt hc154; have i_hc163 : ¬ ((en + (1 : Int32))).toInt < (n).toInt := fun z => hc163 (Int32.lt_iff_toInt_lt.mpr z); have i_hc189 : ¬ ((en + (1 : Int32))).toInt < (n).toInt := fun z => hc189 (Int32.lt_iff_toInt_lt.mpr z); have r2 := rng32 en; have e3 : (1 : Int32).toInt = 1 := rfl; have e1 := c_iadd en (1 : Int32); have r1 := rng32 (en + (1 : Int32)); have r4 := rng32 n; have r5 := rng32 (ch en.toNatClampNeg); have e6 : (101 : Int32).toInt = 101 := rfl; have e7 : (69 : Int32).toInt = 69 := rfl; omega) (by have i_hc128 : (en).toInt < (n).toInt := Int32.lt_iff_toInt_lt.mp hc128; have i_hc141 : ¬ ((ch en.toNatClampNeg)).toInt = ((101 : Int32)).toInt := fun z => hc141 (Int32.toInt_inj.mp z); have i_hc154 : ((ch en.toNatClampNeg)).toInt = ((69 : Int32)).toInt := congrArg Int32.toInt hc154; have i_hc163 : ¬ ((en + (1 : Int32))).toInt < (n).toInt := fun z => hc163 (Int32.lt_iff_toInt_lt.mpr z); have i_hc189 : ¬ ((en + (1 : Int32))).toInt < (n).toInt := fun z => hc189 (Int32.lt_iff_toInt_lt.mpr z); have r2 := rng32 en; have e3 : (1 : Int32).toInt = 1 := rfl; have e1 := c_iadd en (1 : Int32); have r1 := rng32 (en + (1 : Int32)); have r4 := rng32 n; have r5 := rng32 (ch en.toNatClampNeg); have e6 : (101 : Int32).toInt = 101 := rfl; have e7 : (69 : Int32).toInt = 69 := rfl; omega))) rfl (lenOf pd_9 rfl) (by decide) (W := 0) (Nat.le_of_eq rfl) (by decide) (k' := 0) (n' := 0) rfl rfl (by decide) (by decide) (argsL := [(.ref tx), (.int (en + (1 : Int32)))]) (rest := []) rfl (fun v247 h246 q248 => ?_)
            obtain ⟨r245, rfl, rfl, r2450, r245f, r245n, r245D⟩ := q248
            refine G.cast (st' := [(.int r245)]) ?_ rfl
            refine g_istore cx d10_219 (Ls' := #[.val (.ref tx), .val (.int n), .val (.int ng), .val (.int sa), .val (.int en), .val (.int po), .val (.long (0 : Int64)), .second, .val (.int (en + (1 : Int32))), .val (.int (0 : Int32)), .val (.int r245)]) rfl ?_
            refine g_iload cx d10_221 rfl ?_
            refine g_iload cx d10_223 rfl ?_
            refine g_icmp_ne cx d10_225 (fun hc225 => ?_) (fun hc225 => ?_)
            · refine g_aloadN cx d10_230 rfl rfl ?_
              refine g_iload cx d10_231 rfl ?_
              refine g_iload cx d10_233 rfl ?_
              refine g_static cx (y := (⟨"com/example/crisp_typedef/crisptypedef/NumberText", "exponent", "(Ljava/lang/CharSequence;II)J"⟩ : MethodName)) d10_235 (hw _ (List.mem_of_getElem? (i := 164) rfl)) (hw _ (List.mem_of_getElem? (i := 165) rfl)) (hw _ (List.mem_of_getElem? (i := 39) rfl)) (hw _ (List.mem_of_getElem? (i := 166) rfl)) (by decide) (bytes := prog_20_method_8_code) (maxL' := 6) (M := (rmex l Z a0 hw cs SCS hcs fv hfv SFV mm tx n ch _ TT OL (en + (1 : Int32)) r245 (by have i_hc128 : (en).toInt < (n).toInt := Int32.lt_iff_toInt_lt.mp hc128; have i_hc141 : ¬ ((ch en.toNatClampNeg)).toInt = ((101 : Int32)).toInt := fun z => hc141 (Int32.toInt_inj.mp z); have i_hc154 : ((ch en.toNatClampNeg)).toInt = ((69 : Int32)).toInt := congrArg Int32.toInt hc154; have i_hc163 : ¬ ((en + (1 : Int32))).toInt < (n).toInt := fun z => hc163 (Int32.lt_iff_toInt_lt.mpr z); have i_hc189 : ¬ ((en + (1 : Int32))).toInt < (n).toInt := fun z => hc189 (Int32.lt_iff_toInt_lt.mpr z); have i_hc225 : ¬ (r245).toInt = ((en + (1 : Int32))).toInt := fun z => hc225 (Int32.toInt_inj.mp z); have r2 := rng32 en; have e3 : (1 : Int32).toInt = 1 := rfl; have e1 := c_iadd en (1 : Int32); have r1 := rng32 (en + (1 : Int32)); have r4 := rng32 r245; have r5 := rng32 n; have r6 := rng32 (ch en.toNatClampNeg); have e7 : (101 : Int32).toInt = 101 := rfl; have e8 : (69 : Int32).toInt = 69 := rfl; omega) (by have i_hc128 : (en).toInt < (n).toInt := Int32.lt_iff_toInt_lt.mp hc128; have i_hc141 : ¬ ((ch en.toNatClampNeg)).toInt = ((101 : Int32)).toInt := fun z => hc141 (Int32.toInt_inj.mp z); have i_hc154 : ((ch en.toNatClampNeg)).toInt = ((69 : Int32)).toInt := congrArg Int32.toInt hc154; have i_hc163 : ¬ ((en + (1 : Int32))).toInt < (n).toInt := fun z => hc163 (Int32.lt_iff_toInt_lt.mpr z); have i_hc189 : ¬ ((en + (1 : Int32))).toInt < (n).toInt := fun z => hc189 (Int32.lt_iff_toInt_lt.mpr z); have i_hc225 : ¬ (r245).toInt = ((en + (1 : Int32))).toInt := fun z => hc225 (Int32.toInt_inj.mp z); have r2 := rng32 en; have e3 : (1 : Int32).toInt = 1 := rfl; have e1 := c_iadd en (1 : Int32); have r1 := rng32 (en + (1 : Int32)); have r4 := rng32 r245; have r5 := rng32 n; have r6 := rng32 (ch en.toNatClampNeg); have e7 : (101 : Int32).toInt = 101 := rfl; have e8 : (69 : Int32).toInt = 69 := rfl; omega))) rfl (lenOf pd_10 rfl) (by decide) (W := 0) (Nat.le_of_eq rfl) (by decide) (k' := 0) (n' := 0) rfl rfl (by decide) (by decide) (argsL := [(.ref tx), (.int (en + (1 : Int32))), (.int r245)]) (rest := []) rfl (fun v251 h250 q252 => ?_)
              obtain ⟨x249, rfl, rfl⟩ := q252
              refine G.cast (st' := [(.long x249)]) ?_ rfl
              refine g_lstore cx d10_238 (Ls' := #[.val (.ref tx), .val (.int n), .val (.int ng), .val (.int sa), .val (.int en), .val (.int po), .val (.long x249), .second, .val (.int (en + (1 : Int32))), .val (.int (0 : Int32)), .val (.int r245)]) rfl ?_
              refine g_iload cx d10_240 rfl ?_
              refine g_if_eq cx d10_242 (fun hc242 => ?_) (fun q => absurd q (fun q => by revert q; decide))
              refine g_lload cx d10_251 rfl ?_
              refine g_lstore cx d10_253 (Ls' := #[.val (.ref tx), .val (.int n), .val (.int ng), .val (.int sa), .val (.int en), .val (.int po), .val (.long x249), .second, .val (.int (en + (1 : Int32))), .val (.int (0 : Int32)), .val (.int r245)]) rfl ?_
              refine g_iload cx d10_255 rfl ?_
              refine g_istore cx d10_257 (Ls' := #[.val (.ref tx), .val (.int n), .val (.int ng), .val (.int sa), .val (.int en), .val (.int po), .val (.long x249), .second, .val (.int r245), .val (.int (0 : Int32)), .val (.int r245)]) rfl ?_
              exact JE ng sa po en _ _ _ _ f1 f2 f3 f4 f5 f6 (fun _ => Or.inr ⟨Int32.lt_iff_toInt_lt.mp hc128, Or.inr (by rw [hc154]; rfl)⟩)
            · refine g_aconst_null cx d10_228 ?_
              refine g_retA cx d10_229 (t := (.object "com/example/crisp_typedef/crisptypedef/NumberText$Parts")) rfl rfl rfl rfl (by decide) (by decide) ?_
              exact Or.inl ⟨rfl, KK⟩
          · refine g_aloadN cx d10_166 rfl rfl ?_
            refine g_iload cx d10_167 rfl ?_
            refine g_interface cx (x := (⟨"java/lang/CharSequence", "charAt", "(I)C"⟩ : MethodName)) (y := (⟨"java/lang/String", "charAt", "(I)C"⟩ : MethodName)) (a := tx) d10_169 (hw _ (List.mem_of_getElem? (i := 58) rfl)) (hw _ (List.mem_of_getElem? (i := 59) rfl)) (hw _ (List.mem_of_getElem? (i := 60) rfl)) (hw _ (List.mem_of_getElem? (i := 10) rfl)) (hw _ (List.mem_of_getElem? (i := 65) rfl)) (hw _ (List.mem_of_getElem? (i := 61) rfl)) (hw _ (List.mem_of_getElem? (i := 62) rfl)) (hw _ (List.mem_of_getElem? (i := 63) rfl)) (hw _ (List.mem_of_getElem? (i := 64) rfl)) (hw _ (List.mem_of_getElem? (i := 51) rfl)) (by decide) O_tx.1 (bytes := jdk_42_method_56_code) (maxL' := 2) (M := (rmca l Z a0 hw cs SCS hcs fv hfv SFV mm tx n ch _ TT OL (en + (1 : Int32)) (fun q => by have i_hc128 : (en).toInt < (n).toInt := Int32.lt_iff_toInt_lt.mp hc128; have i_hc141 : ¬ ((ch en.toNatClampNeg)).toInt = ((101 : Int32)).toInt := fun z => hc141 (Int32.toInt_inj.mp z); have i_hc154 : ((ch en.toNatClampNeg)).toInt = ((69 : Int32)).toInt := congrArg Int32.toInt hc154; have i_hc163 : ((en + (1 : Int32))).toInt < (n).toInt := Int32.lt_iff_toInt_lt.mp hc163; have i_q : ((en + (1 : Int32))).toInt < ((0 : Int32)).toInt := Int32.lt_iff_toInt_lt.mp q; have r1 := rng32 en; have r2 := rng32 n; have r3 := rng32 (ch en.toNatClampNeg); have e4 : (101 : Int32).toInt = 101 := rfl; have e5 : (69 : Int32).toInt = 69 := rfl; have e7 : (1 : Int32).toInt = 1 := rfl; have e6 := c_iadd en (1 : Int32); have r6 := rng32 (en + (1 : Int32)); have e8 : (0 : Int32).toInt = 0 := rfl; omega) (Decidable.byContradiction fun q => by have i_hc128 : (en).toInt < (n).toInt := Int32.lt_iff_toInt_lt.mp hc128; have i_hc141 : ¬ ((ch en.toNatClampNeg)).toInt = ((101 : Int32)).toInt := fun z => hc141 (Int32.toInt_inj.mp z); have i_hc154 : ((ch en.toNatClampNeg)).toInt = ((69 : Int32)).toInt := congrArg Int32.toInt hc154; have i_hc163 : ((en + (1 : Int32))).toInt < (n).toInt := Int32.lt_iff_toInt_lt.mp hc163; have i_q : ¬ ((en + (1 : Int32))).toInt < (n).toInt := fun z => q (Int32.lt_iff_toInt_lt.mpr z); have r1 := rng32 en; have r2 := rng32 n; have r3 := rng32 (ch en.toNatClampNeg); have e4 : (101 : Int32).toInt = 101 := rfl; have e5 : (69 : Int32).toInt = 69 := rfl; have e7 : (1 : Int32).toInt = 1 := rfl; have e6 := c_iadd en (1 : Int32); have r6 := rng32 (en + (1 : Int32)); omega))) rfl (lenOf pd_6 rfl) (by decide) (W := 0) (Nat.le_of_eq rfl) (by decide) (k' := 0) (n' := 0) rfl rfl (by decide) (by decide) (argsL := [(.int (en + (1 : Int32)))]) (rest := []) rfl (fun v254 h253 q255 => ?_)
            obtain ⟨rfl, rfl⟩ := q255
            refine G.cast (st' := [(.int (ch (en + (1 : Int32)).toNatClampNeg))]) ?_ rfl
            refine g_bipush cx d10_174 (v := (45 : Int32)) rfl ?_
            refine g_icmp_ne cx d10_176 (fun hc176 => ?_) (fun hc176 => ?_)
            · refine g_iconst cx d10_183 (v := (0 : Int32)) rfl ?_
              refine g_istore cx d10_184 (Ls' := #[.val (.ref tx), .val (.int n), .val (.int ng), .val (.int sa), .val (.int en), .val (.int po), .val (.long (0 : Int64)), .second, .val (.int (en + (1 : Int32))), .val (.int (0 : Int32)), .unset]) rfl ?_
              refine g_iload cx d10_186 rfl ?_
              refine g_iloadN cx d10_188 rfl ?_
              refine g_icmp_ge cx d10_189 (fun q => absurd q (fun q => q hc163)) (fun hc189 => ?_)
              refine g_iload cx d10_192 rfl ?_
              refine g_if_ne cx d10_194 (fun q => absurd q (fun q => by revert q; decide)) (fun hc194 => ?_)
              refine g_aloadN cx d10_197 rfl rfl ?_
              refine g_iload cx d10_198 rfl ?_
              refine g_interface cx (x := (⟨"java/lang/CharSequence", "charAt", "(I)C"⟩ : MethodName)) (y := (⟨"java/lang/String", "charAt", "(I)C"⟩ : MethodName)) (a := tx) d10_200 (hw _ (List.mem_of_getElem? (i := 58) rfl)) (hw _ (List.mem_of_getElem? (i := 59) rfl)) (hw _ (List.mem_of_getElem? (i := 60) rfl)) (hw _ (List.mem_of_getElem? (i := 10) rfl)) (hw _ (List.mem_of_getElem? (i := 65) rfl)) (hw _ (List.mem_of_getElem? (i := 61) rfl)) (hw _ (List.mem_of_getElem? (i := 62) rfl)) (hw _ (List.mem_of_getElem? (i := 63) rfl)) (hw _ (List.mem_of_getElem? (i := 64) rfl)) (hw _ (List.mem_of_getElem? (i := 51) rfl)) (by decide) O_tx.1 (bytes := jdk_42_method_56_code) (maxL' := 2) (M := (rmca l Z a0 hw cs SCS hcs fv hfv SFV mm tx n ch _ TT OL (en + (1 : Int32)) (fun q => by have i_hc128 : (en).toInt < (n).toInt := Int32.lt_iff_toInt_lt.mp hc128; have i_hc141 : ¬ ((ch en.toNatClampNeg)).toInt = ((101 : Int32)).toInt := fun z => hc141 (Int32.toInt_inj.mp z); have i_hc154 : ((ch en.toNatClampNeg)).toInt = ((69 : Int32)).toInt := congrArg Int32.toInt hc154; have i_hc163 : ((en + (1 : Int32))).toInt < (n).toInt := Int32.lt_iff_toInt_lt.mp hc163; have i_hc176 : ¬ ((ch (en + (1 : Int32)).toNatClampNeg)).toInt = ((45 : Int32)).toInt := fun z => hc176 (Int32.toInt_inj.mp z); have i_hc189 : ((en + (1 : Int32))).toInt < (n).toInt := Int32.lt_iff_toInt_lt.mp hc189; have i_hc194 : ((0 : Int32)).toInt = ((0 : Int32)).toInt := congrArg Int32.toInt hc194; have i_q : ((en + (1 : Int32))).toInt < ((0 : Int32)).toInt := Int32.lt_iff_toInt_lt.mp q; have r1 := rng32 en; have r2 := rng32 n; have r3 := rng32 (ch en.toNatClampNeg); have e4 : (101 : Int32).toInt = 101 := rfl; have e5 : (69 : Int32).toInt = 69 := rfl; have e7 : (1 : Int32).toInt = 1 := rfl; have e6 := c_iadd en (1 : Int32); have r6 := rng32 (en + (1 : Int32)); have r8 := rng32 (ch (en + (1 : Int32)).toNatClampNeg); have e9 : (45 : Int32).toInt = 45 := rfl; have e10 : (0 : Int32).toInt = 0 := rfl; omega) (Decidable.byContradiction fun q => by have i_hc128 : (en).toInt < (n).toInt := Int32.lt_iff_toInt_lt.mp hc128; have i_hc141 : ¬ ((ch en.toNatClampNeg)).toInt = ((101 : Int32)).toInt := fun z => hc141 (Int32.toInt_inj.mp z); have i_hc154 : ((ch en.toNatClampNeg)).toInt = ((69 : Int32)).toInt := congrArg Int32.toInt hc154; have i_hc163 : ((en + (1 : Int32))).toInt < (n).toInt := Int32.lt_iff_toInt_lt.mp hc163; have i_hc176 : ¬ ((ch (en + (1 : Int32)).toNatClampNeg)).toInt = ((45 : Int32)).toInt := fun z => hc176 (Int32.toInt_inj.mp z); have i_hc189 : ((en + (1 : Int32))).toInt < (n).toInt := Int32.lt_iff_toInt_lt.mp hc189; have i_hc194 : ((0 : Int32)).toInt = ((0 : Int32)).toInt := congrArg Int32.toInt hc194; have i_q : ¬ ((en + (1 : Int32))).toInt < (n).toInt := fun z => q (Int32.lt_iff_toInt_lt.mpr z); have r1 := rng32 en; have r2 := rng32 n; have r3 := rng32 (ch en.toNatClampNeg); have e4 : (101 : Int32).toInt = 101 := rfl; have e5 : (69 : Int32).toInt = 69 := rfl; have e7 : (1 : Int32).toInt = 1 := rfl; have e6 := c_iadd en (1 : Int32); have r6 := rng32 (en + (1 : Int32)); have r8 := rng32 (ch (en + (1 : Int32)).toNatClampNeg); have e9 : (45 : Int32).toInt = 45 := rfl; have e10 : (0 : Int32).toInt = 0 := rfl; omega))) rfl (lenOf pd_6 rfl) (by decide) (W := 0) (Nat.le_of_eq rfl) (by decide) (k' := 0) (n' := 0) rfl rfl (by decide) (by decide) (argsL := [(.int (en + (1 : Int32)))]) (rest := []) rfl (fun v257 h256 q258 => ?_)
              obtain ⟨rfl, rfl⟩ := q258
              refine G.cast (st' := [(.int (ch (en + (1 : Int32)).toNatClampNeg))]) ?_ rfl
              refine g_bipush cx d10_205 (v := (43 : Int32)) rfl ?_
              refine g_icmp_ne cx d10_207 (fun hc207 => ?_) (fun hc207 => ?_)
              · refine g_aloadN cx d10_213 rfl rfl ?_
                refine g_iload cx d10_214 rfl ?_
                refine g_static cx (y := (⟨"com/example/crisp_typedef/crisptypedef/NumberText", "digitsEnd", "(Ljava/lang/CharSequence;I)I"⟩ : MethodName)) d10_216 (hw _ (List.mem_of_getElem? (i := 83) rfl)) (hw _ (List.mem_of_getElem? (i := 84) rfl)) (hw _ (List.mem_of_getElem? (i := 39) rfl)) (hw _ (List.mem_of_getElem? (i := 85) rfl)) (by decide) (bytes := prog_20_method_7_code) (maxL' := 3) (M := (rmde l Z a0 hw cs SCS hcs fv hfv SFV mm tx n ch _ TT OL (en + (1 : Int32)) (by have i_hc128 : (en).toInt < (n).toInt := Int32.lt_iff_toInt_lt.mp hc128; have i_hc141 : ¬ ((ch en.toNatClampNeg)).toInt = ((101 : Int32)).toInt := fun z => hc141 (Int32.toInt_inj.mp z); have i_hc154 : ((ch en.toNatClampNeg)).toInt = ((69 : Int32)).toInt := congrArg Int32.toInt hc154; have i_hc163 : ((en + (1 : Int32))).toInt < (n).toInt := Int32.lt_iff_toInt_lt.mp hc163; have i_hc176 : ¬ ((ch (en + (1 : Int32)).toNatClampNeg)).toInt = ((45 : Int32)).toInt := fun z => hc176 (Int32.toInt_inj.mp z); have i_hc189 : ((en + (1 : Int32))).toInt < (n).toInt := Int32.lt_iff_toInt_lt.mp hc189; have i_hc194 : ((0 : Int32)).toInt = ((0 : Int32)).toInt := congrArg Int32.toInt hc194; have i_hc207 : ¬ ((ch (en + (1 : Int32)).toNatClampNeg)).toInt = ((43 : Int32)).toInt := fun z => hc207 (Int32.toInt_inj.mp z); have r2 := rng32 en; have e3 : (1 : Int32).toInt = 1 := rfl; have e1 := c_iadd en (1 : Int32); have r1 := rng32 (en + (1 : Int32)); have r4 := rng32 n; have r5 := rng32 (ch en.toNatClampNeg); have e6 : (101 : Int32).toInt = 101 := rfl; have e7 : (69 : Int32).toInt = 69 := rfl; have r8 := rng32 (ch (en + (1 : Int32)).toNatClampNeg); have e9 : (45 : Int32).toInt = 45 := rfl; have e10 : (0 : Int32).toInt = 0 := rfl; have e11 : (43 : Int32).toInt = 43 := rfl; omega) (by have i_hc128 : (en).toInt < (n).toInt := Int32.lt_iff_toInt_lt.mp hc128; have i_hc141 : ¬ ((ch en.toNatClampNeg)).toInt = ((101 : Int32)).toInt := fun z => hc141 (Int32.toInt_inj.mp z); have i_hc154 : ((ch en.toNatClampNeg)).toInt = ((69 : Int32)).toInt := congrArg Int32.toInt hc154; have i_hc163 : ((en + (1 : Int32))).toInt < (n).toInt := Int32.lt_iff_toInt_lt.mp hc163; have i_hc176 : ¬ ((ch (en + (1 : Int32)).toNatClampNeg)).toInt = ((45 : Int32)).toInt := fun z => hc176 (Int32.toInt_inj.mp z); have i_hc189 : ((en + (1 : Int32))).toInt < (n).toInt := Int32.lt_iff_toInt_lt.mp hc189; have i_hc194 : ((0 : Int32)).toInt = ((0 : Int32)).toInt := congrArg Int32.toInt hc194; have i_hc207 : ¬ ((ch (en + (1 : Int32)).toNatClampNeg)).toInt = ((43 : Int32)).toInt := fun z => hc207 (Int32.toInt_inj.mp z); have r2 := rng32 en; have e3 : (1 : Int32).toInt = 1 := rfl; have e1 := c_iadd en (1 : Int32); have r1 := rng32 (en + (1 : Int32)); have r4 := rng32 n; have r5 := rng32 (ch en.toNatClampNeg); have e6 : (101 : Int32).toInt = 101 := rfl; have e7 : (69 : Int32).toInt = 69 := rfl; have r8 := rng32 (ch (en + (1 : Int32)).toNatClampNeg); have e9 : (45 : Int32).toInt = 45 := rfl; have e10 : (0 : Int32).toInt = 0 := rfl; have e11 : (43 : Int32).toInt = 43 := rfl; omega))) rfl (lenOf pd_9 rfl) (by decide) (W := 0) (Nat.le_of_eq rfl) (by decide) (k' := 0) (n' := 0) rfl rfl (by decide) (by decide) (argsL := [(.ref tx), (.int (en + (1 : Int32)))]) (rest := []) rfl (fun v261 h260 q262 => ?_)
                obtain ⟨r259, rfl, rfl, r2590, r259f, r259n, r259D⟩ := q262
                refine G.cast (st' := [(.int r259)]) ?_ rfl
                refine g_istore cx d10_219 (Ls' := #[.val (.ref tx), .val (.int n), .val (.int ng), .val (.int sa), .val (.int en), .val (.int po), .val (.long (0 : Int64)), .second, .val (.int (en + (1 : Int32))), .val (.int (0 : Int32)), .val (.int r259)]) rfl ?_
                refine g_iload cx d10_221 rfl ?_
                refine g_iload cx d10_223 rfl ?_
                refine g_icmp_ne cx d10_225 (fun hc225 => ?_) (fun hc225 => ?_)
                · refine g_aloadN cx d10_230 rfl rfl ?_
                  refine g_iload cx d10_231 rfl ?_
                  refine g_iload cx d10_233 rfl ?_
                  refine g_static cx (y := (⟨"com/example/crisp_typedef/crisptypedef/NumberText", "exponent", "(Ljava/lang/CharSequence;II)J"⟩ : MethodName)) d10_235 (hw _ (List.mem_of_getElem? (i := 164) rfl)) (hw _ (List.mem_of_getElem? (i := 165) rfl)) (hw _ (List.mem_of_getElem? (i := 39) rfl)) (hw _ (List.mem_of_getElem? (i := 166) rfl)) (by decide) (bytes := prog_20_method_8_code) (maxL' := 6) (M := (rmex l Z a0 hw cs SCS hcs fv hfv SFV mm tx n ch _ TT OL (en + (1 : Int32)) r259 (by have i_hc128 : (en).toInt < (n).toInt := Int32.lt_iff_toInt_lt.mp hc128; have i_hc141 : ¬ ((ch en.toNatClampNeg)).toInt = ((101 : Int32)).toInt := fun z => hc141 (Int32.toInt_inj.mp z); have i_hc154 : ((ch en.toNatClampNeg)).toInt = ((69 : Int32)).toInt := congrArg Int32.toInt hc154; have i_hc163 : ((en + (1 : Int32))).toInt < (n).toInt := Int32.lt_iff_toInt_lt.mp hc163; have i_hc176 : ¬ ((ch (en + (1 : Int32)).toNatClampNeg)).toInt = ((45 : Int32)).toInt := fun z => hc176 (Int32.toInt_inj.mp z); have i_hc189 : ((en + (1 : Int32))).toInt < (n).toInt := Int32.lt_iff_toInt_lt.mp hc189; have i_hc194 : ((0 : Int32)).toInt = ((0 : Int32)).toInt := congrArg Int32.toInt hc194; have i_hc207 : ¬ ((ch (en + (1 : Int32)).toNatClampNeg)).toInt = ((43 : Int32)).toInt := fun z => hc207 (Int32.toInt_inj.mp z); have i_hc225 : ¬ (r259).toInt = ((en + (1 : Int32))).toInt := fun z => hc225 (Int32.toInt_inj.mp z); have r2 := rng32 en; have e3 : (1 : Int32).toInt = 1 := rfl; have e1 := c_iadd en (1 : Int32); have r1 := rng32 (en + (1 : Int32)); have r4 := rng32 r259; have r5 := rng32 n; have r6 := rng32 (ch en.toNatClampNeg); have e7 : (101 : Int32).toInt = 101 := rfl; have e8 : (69 : Int32).toInt = 69 := rfl; have r9 := rng32 (ch (en + (1 : Int32)).toNatClampNeg); have e10 : (45 : Int32).toInt = 45 := rfl; have e11 : (0 : Int32).toInt = 0 := rfl; have e12 : (43 : Int32).toInt = 43 := rfl; omega) (by have i_hc128 : (en).toInt < (n).toInt := Int32.lt_iff_toInt_lt.mp hc128; have i_hc141 : ¬ ((ch en.toNatClampNeg)).toInt = ((101 : Int32)).toInt := fun z => hc141 (Int32.toInt_inj.mp z); have i_hc154 : ((ch en.toNatClampNeg)).toInt = ((69 : Int32)).toInt := congrArg Int32.toInt hc154; have i_hc163 : ((en + (1 : Int32))).toInt < (n).toInt := Int32.lt_iff_toInt_lt.mp hc163; have i_hc176 : ¬ ((ch (en + (1 : Int32)).toNatClampNeg)).toInt = ((45 : Int32)).toInt := fun z => hc176 (Int32.toInt_inj.mp z); have i_hc189 : ((en + (1 : Int32))).toInt < (n).toInt := Int32.lt_iff_toInt_lt.mp hc189; have i_hc194 : ((0 : Int32)).toInt = ((0 : Int32)).toInt := congrArg Int32.toInt hc194; have i_hc207 : ¬ ((ch (en + (1 : Int32)).toNatClampNeg)).toInt = ((43 : Int32)).toInt := fun z => hc207 (Int32.toInt_inj.mp z); have i_hc225 : ¬ (r259).toInt = ((en + (1 : Int32))).toInt := fun z => hc225 (Int32.toInt_inj.mp z); have r2 := rng32 en; have e3 : (1 : Int32).toInt = 1 := rfl; have e1 := c_iadd en (1 : Int32); have r1 := rng32 (en + (1 : Int32)); have r4 := rng32 r259; have r5 := rng32 n; have r6 := rng32 (ch en.toNatClampNeg); have e7 : (101 : Int32).toInt = 101 := rfl; have e8 : (69 : Int32).toInt = 69 := rfl; have r9 := rng32 (ch (en + (1 : Int32)).toNatClampNeg); have e10 : (45 : Int32).toInt = 45 := rfl; have e11 : (0 : Int32).toInt = 0 := rfl; have e12 : (43 : Int32).toInt = 43 := rfl; omega))) rfl (lenOf pd_10 rfl) (by decide) (W := 0) (Nat.le_of_eq rfl) (by decide) (k' := 0) (n' := 0) rfl rfl (by decide) (by decide) (argsL := [(.ref tx), (.int (en + (1 : Int32))), (.int r259)]) (rest := []) rfl (fun v265 h264 q266 => ?_)
                  obtain ⟨x263, rfl, rfl⟩ := q266
                  refine G.cast (st' := [(.long x263)]) ?_ rfl
                  refine g_lstore cx d10_238 (Ls' := #[.val (.ref tx), .val (.int n), .val (.int ng), .val (.int sa), .val (.int en), .val (.int po), .val (.long x263), .second, .val (.int (en + (1 : Int32))), .val (.int (0 : Int32)), .val (.int r259)]) rfl ?_
                  refine g_iload cx d10_240 rfl ?_
                  refine g_if_eq cx d10_242 (fun hc242 => ?_) (fun q => absurd q (fun q => by revert q; decide))
                  refine g_lload cx d10_251 rfl ?_
                  refine g_lstore cx d10_253 (Ls' := #[.val (.ref tx), .val (.int n), .val (.int ng), .val (.int sa), .val (.int en), .val (.int po), .val (.long x263), .second, .val (.int (en + (1 : Int32))), .val (.int (0 : Int32)), .val (.int r259)]) rfl ?_
                  refine g_iload cx d10_255 rfl ?_
                  refine g_istore cx d10_257 (Ls' := #[.val (.ref tx), .val (.int n), .val (.int ng), .val (.int sa), .val (.int en), .val (.int po), .val (.long x263), .second, .val (.int r259), .val (.int (0 : Int32)), .val (.int r259)]) rfl ?_
                  exact JE ng sa po en _ _ _ _ f1 f2 f3 f4 f5 f6 (fun _ => Or.inr ⟨Int32.lt_iff_toInt_lt.mp hc128, Or.inr (by rw [hc154]; rfl)⟩)
                · refine g_aconst_null cx d10_228 ?_
                  refine g_retA cx d10_229 (t := (.object "com/example/crisp_typedef/crisptypedef/NumberText$Parts")) rfl rfl rfl rfl (by decide) (by decide) ?_
                  exact Or.inl ⟨rfl, KK⟩
              · refine g_iinc cx d10_210 rfl (v := (1 : Int32)) rfl (Ls' := #[.val (.ref tx), .val (.int n), .val (.int ng), .val (.int sa), .val (.int en), .val (.int po), .val (.long (0 : Int64)), .second, .val (.int ((en + (1 : Int32)) + (1 : Int32))), .val (.int (0 : Int32)), .unset]) rfl ?_
                refine g_aloadN cx d10_213 rfl rfl ?_
                refine g_iload cx d10_214 rfl ?_
                refine g_static cx (y := (⟨"com/example/crisp_typedef/crisptypedef/NumberText", "digitsEnd", "(Ljava/lang/CharSequence;I)I"⟩ : MethodName)) d10_216 (hw _ (List.mem_of_getElem? (i := 83) rfl)) (hw _ (List.mem_of_getElem? (i := 84) rfl)) (hw _ (List.mem_of_getElem? (i := 39) rfl)) (hw _ (List.mem_of_getElem? (i := 85) rfl)) (by decide) (bytes := prog_20_method_7_code) (maxL' := 3) (M := (rmde l Z a0 hw cs SCS hcs fv hfv SFV mm tx n ch _ TT OL ((en + (1 : Int32)) + (1 : Int32)) (by have i_hc128 : (en).toInt < (n).toInt := Int32.lt_iff_toInt_lt.mp hc128; have i_hc141 : ¬ ((ch en.toNatClampNeg)).toInt = ((101 : Int32)).toInt := fun z => hc141 (Int32.toInt_inj.mp z); have i_hc154 : ((ch en.toNatClampNeg)).toInt = ((69 : Int32)).toInt := congrArg Int32.toInt hc154; have i_hc163 : ((en + (1 : Int32))).toInt < (n).toInt := Int32.lt_iff_toInt_lt.mp hc163; have i_hc176 : ¬ ((ch (en + (1 : Int32)).toNatClampNeg)).toInt = ((45 : Int32)).toInt := fun z => hc176 (Int32.toInt_inj.mp z); have i_hc189 : ((en + (1 : Int32))).toInt < (n).toInt := Int32.lt_iff_toInt_lt.mp hc189; have i_hc194 : ((0 : Int32)).toInt = ((0 : Int32)).toInt := congrArg Int32.toInt hc194; have i_hc207 : ((ch (en + (1 : Int32)).toNatClampNeg)).toInt = ((43 : Int32)).toInt := congrArg Int32.toInt hc207; have r3 := rng32 en; have e4 : (1 : Int32).toInt = 1 := rfl; have e2 := c_iadd en (1 : Int32); have r2 := rng32 (en + (1 : Int32)); have e1 := c_iadd (en + (1 : Int32)) (1 : Int32); have r1 := rng32 ((en + (1 : Int32)) + (1 : Int32)); have r5 := rng32 n; have r6 := rng32 (ch en.toNatClampNeg); have e7 : (101 : Int32).toInt = 101 := rfl; have e8 : (69 : Int32).toInt = 69 := rfl; have r9 := rng32 (ch (en + (1 : Int32)).toNatClampNeg); have e10 : (45 : Int32).toInt = 45 := rfl; have e11 : (0 : Int32).toInt = 0 := rfl; have e12 : (43 : Int32).toInt = 43 := rfl; omega) (by have i_hc128 : (en).toInt < (n).toInt := Int32.lt_iff_toInt_lt.mp hc128; have i_hc141 : ¬ ((ch en.toNatClampNeg)).toInt = ((101 : Int32)).toInt := fun z => hc141 (Int32.toInt_inj.mp z); have i_hc154 : ((ch en.toNatClampNeg)).toInt = ((69 : Int32)).toInt := congrArg Int32.toInt hc154; have i_hc163 : ((en + (1 : Int32))).toInt < (n).toInt := Int32.lt_iff_toInt_lt.mp hc163; have i_hc176 : ¬ ((ch (en + (1 : Int32)).toNatClampNeg)).toInt = ((45 : Int32)).toInt := fun z => hc176 (Int32.toInt_inj.mp z); have i_hc189 : ((en + (1 : Int32))).toInt < (n).toInt := Int32.lt_iff_toInt_lt.mp hc189; have i_hc194 : ((0 : Int32)).toInt = ((0 : Int32)).toInt := congrArg Int32.toInt hc194; have i_hc207 : ((ch (en + (1 : Int32)).toNatClampNeg)).toInt = ((43 : Int32)).toInt := congrArg Int32.toInt hc207; have r3 := rng32 en; have e4 : (1 : Int32).toInt = 1 := rfl; have e2 := c_iadd en (1 : Int32); have r2 := rng32 (en + (1 : Int32)); have e1 := c_iadd (en + (1 : Int32)) (1 : Int32); have r1 := rng32 ((en + (1 : Int32)) + (1 : Int32)); have r5 := rng32 n; have r6 := rng32 (ch en.toNatClampNeg); have e7 : (101 : Int32).toInt = 101 := rfl; have e8 : (69 : Int32).toInt = 69 := rfl; have r9 := rng32 (ch (en + (1 : Int32)).toNatClampNeg); have e10 : (45 : Int32).toInt = 45 := rfl; have e11 : (0 : Int32).toInt = 0 := rfl; have e12 : (43 : Int32).toInt = 43 := rfl; omega))) rfl (lenOf pd_9 rfl) (by decide) (W := 0) (Nat.le_of_eq rfl) (by decide) (k' := 0) (n' := 0) rfl rfl (by decide) (by decide) (argsL := [(.ref tx), (.int ((en + (1 : Int32)) + (1 : Int32)))]) (rest := []) rfl (fun v269 h268 q270 => ?_)
                obtain ⟨r267, rfl, rfl, r2670, r267f, r267n, r267D⟩ := q270
                refine G.cast (st' := [(.int r267)]) ?_ rfl
                refine g_istore cx d10_219 (Ls' := #[.val (.ref tx), .val (.int n), .val (.int ng), .val (.int sa), .val (.int en), .val (.int po), .val (.long (0 : Int64)), .second, .val (.int ((en + (1 : Int32)) + (1 : Int32))), .val (.int (0 : Int32)), .val (.int r267)]) rfl ?_
                refine g_iload cx d10_221 rfl ?_
                refine g_iload cx d10_223 rfl ?_
                refine g_icmp_ne cx d10_225 (fun hc225 => ?_) (fun hc225 => ?_)
                · refine g_aloadN cx d10_230 rfl rfl ?_
                  refine g_iload cx d10_231 rfl ?_
                  refine g_iload cx d10_233 rfl ?_
                  refine g_static cx (y := (⟨"com/example/crisp_typedef/crisptypedef/NumberText", "exponent", "(Ljava/lang/CharSequence;II)J"⟩ : MethodName)) d10_235 (hw _ (List.mem_of_getElem? (i := 164) rfl)) (hw _ (List.mem_of_getElem? (i := 165) rfl)) (hw _ (List.mem_of_getElem? (i := 39) rfl)) (hw _ (List.mem_of_getElem? (i := 166) rfl)) (by decide) (bytes := prog_20_method_8_code) (maxL' := 6) (M := (rmex l Z a0 hw cs SCS hcs fv hfv SFV mm tx n ch _ TT OL ((en + (1 : Int32)) + (1 : Int32)) r267 (by have i_hc128 : (en).toInt < (n).toInt := Int32.lt_iff_toInt_lt.mp hc128; have i_hc141 : ¬ ((ch en.toNatClampNeg)).toInt = ((101 : Int32)).toInt := fun z => hc141 (Int32.toInt_inj.mp z); have i_hc154 : ((ch en.toNatClampNeg)).toInt = ((69 : Int32)).toInt := congrArg Int32.toInt hc154; have i_hc163 : ((en + (1 : Int32))).toInt < (n).toInt := Int32.lt_iff_toInt_lt.mp hc163; have i_hc176 : ¬ ((ch (en + (1 : Int32)).toNatClampNeg)).toInt = ((45 : Int32)).toInt := fun z => hc176 (Int32.toInt_inj.mp z); have i_hc189 : ((en + (1 : Int32))).toInt < (n).toInt := Int32.lt_iff_toInt_lt.mp hc189; have i_hc194 : ((0 : Int32)).toInt = ((0 : Int32)).toInt := congrArg Int32.toInt hc194; have i_hc207 : ((ch (en + (1 : Int32)).toNatClampNeg)).toInt = ((43 : Int32)).toInt := congrArg Int32.toInt hc207; have i_hc225 : ¬ (r267).toInt = (((en + (1 : Int32)) + (1 : Int32))).toInt := fun z => hc225 (Int32.toInt_inj.mp z); have r3 := rng32 en; have e4 : (1 : Int32).toInt = 1 := rfl; have e2 := c_iadd en (1 : Int32); have r2 := rng32 (en + (1 : Int32)); have e1 := c_iadd (en + (1 : Int32)) (1 : Int32); have r1 := rng32 ((en + (1 : Int32)) + (1 : Int32)); have r5 := rng32 r267; have r6 := rng32 n; have r7 := rng32 (ch en.toNatClampNeg); have e8 : (101 : Int32).toInt = 101 := rfl; have e9 : (69 : Int32).toInt = 69 := rfl; have r10 := rng32 (ch (en + (1 : Int32)).toNatClampNeg); have e11 : (45 : Int32).toInt = 45 := rfl; have e12 : (0 : Int32).toInt = 0 := rfl; have e13 : (43 : Int32).toInt = 43 := rfl; omega) (by have i_hc128 : (en).toInt < (n).toInt := Int32.lt_iff_toInt_lt.mp hc128; have i_hc141 : ¬ ((ch en.toNatClampNeg)).toInt = ((101 : Int32)).toInt := fun z => hc141 (Int32.toInt_inj.mp z); have i_hc154 : ((ch en.toNatClampNeg)).toInt = ((69 : Int32)).toInt := congrArg Int32.toInt hc154; have i_hc163 : ((en + (1 : Int32))).toInt < (n).toInt := Int32.lt_iff_toInt_lt.mp hc163; have i_hc176 : ¬ ((ch (en + (1 : Int32)).toNatClampNeg)).toInt = ((45 : Int32)).toInt := fun z => hc176 (Int32.toInt_inj.mp z); have i_hc189 : ((en + (1 : Int32))).toInt < (n).toInt := Int32.lt_iff_toInt_lt.mp hc189; have i_hc194 : ((0 : Int32)).toInt = ((0 : Int32)).toInt := congrArg Int32.toInt hc194; have i_hc207 : ((ch (en + (1 : Int32)).toNatClampNeg)).toInt = ((43 : Int32)).toInt := congrArg Int32.toInt hc207; have i_hc225 : ¬ (r267).toInt = (((en + (1 : Int32)) + (1 : Int32))).toInt := fun z => hc225 (Int32.toInt_inj.mp z); have r3 := rng32 en; have e4 : (1 : Int32).toInt = 1 := rfl; have e2 := c_iadd en (1 : Int32); have r2 := rng32 (en + (1 : Int32)); have e1 := c_iadd (en + (1 : Int32)) (1 : Int32); have r1 := rng32 ((en + (1 : Int32)) + (1 : Int32)); have r5 := rng32 r267; have r6 := rng32 n; have r7 := rng32 (ch en.toNatClampNeg); have e8 : (101 : Int32).toInt = 101 := rfl; have e9 : (69 : Int32).toInt = 69 := rfl; have r10 := rng32 (ch (en + (1 : Int32)).toNatClampNeg); have e11 : (45 : Int32).toInt = 45 := rfl; have e12 : (0 : Int32).toInt = 0 := rfl; have e13 : (43 : Int32).toInt = 43 := rfl; omega))) rfl (lenOf pd_10 rfl) (by decide) (W := 0) (Nat.le_of_eq rfl) (by decide) (k' := 0) (n' := 0) rfl rfl (by decide) (by decide) (argsL := [(.ref tx), (.int ((en + (1 : Int32)) + (1 : Int32))), (.int r267)]) (rest := []) rfl (fun v273 h272 q274 => ?_)
                  obtain ⟨x271, rfl, rfl⟩ := q274
                  refine G.cast (st' := [(.long x271)]) ?_ rfl
                  refine g_lstore cx d10_238 (Ls' := #[.val (.ref tx), .val (.int n), .val (.int ng), .val (.int sa), .val (.int en), .val (.int po), .val (.long x271), .second, .val (.int ((en + (1 : Int32)) + (1 : Int32))), .val (.int (0 : Int32)), .val (.int r267)]) rfl ?_
                  refine g_iload cx d10_240 rfl ?_
                  refine g_if_eq cx d10_242 (fun hc242 => ?_) (fun q => absurd q (fun q => by revert q; decide))
                  refine g_lload cx d10_251 rfl ?_
                  refine g_lstore cx d10_253 (Ls' := #[.val (.ref tx), .val (.int n), .val (.int ng), .val (.int sa), .val (.int en), .val (.int po), .val (.long x271), .second, .val (.int ((en + (1 : Int32)) + (1 : Int32))), .val (.int (0 : Int32)), .val (.int r267)]) rfl ?_
                  refine g_iload cx d10_255 rfl ?_
                  refine g_istore cx d10_257 (Ls' := #[.val (.ref tx), .val (.int n), .val (.int ng), .val (.int sa), .val (.int en), .val (.int po), .val (.long x271), .second, .val (.int r267), .val (.int (0 : Int32)), .val (.int r267)]) rfl ?_
                  exact JE ng sa po en _ _ _ _ f1 f2 f3 f4 f5 f6 (fun _ => Or.inr ⟨Int32.lt_iff_toInt_lt.mp hc128, Or.inr (by rw [hc154]; rfl)⟩)
                · refine g_aconst_null cx d10_228 ?_
                  refine g_retA cx d10_229 (t := (.object "com/example/crisp_typedef/crisptypedef/NumberText$Parts")) rfl rfl rfl rfl (by decide) (by decide) ?_
                  exact Or.inl ⟨rfl, KK⟩
            · refine g_iconst cx d10_179 (v := (1 : Int32)) rfl ?_
              refine g_goto cx d10_180 ?_
              refine g_istore cx d10_184 (Ls' := #[.val (.ref tx), .val (.int n), .val (.int ng), .val (.int sa), .val (.int en), .val (.int po), .val (.long (0 : Int64)), .second, .val (.int (en + (1 : Int32))), .val (.int (1 : Int32)), .unset]) rfl ?_
              refine g_iload cx d10_186 rfl ?_
              refine g_iloadN cx d10_188 rfl ?_
              refine g_icmp_ge cx d10_189 (fun q => absurd q (fun q => q hc163)) (fun hc189 => ?_)
              refine g_iload cx d10_192 rfl ?_
              refine g_if_ne cx d10_194 (fun hc194 => ?_) (fun q => absurd q (fun q => by revert q; decide))
              refine g_iinc cx d10_210 rfl (v := (1 : Int32)) rfl (Ls' := #[.val (.ref tx), .val (.int n), .val (.int ng), .val (.int sa), .val (.int en), .val (.int po), .val (.long (0 : Int64)), .second, .val (.int ((en + (1 : Int32)) + (1 : Int32))), .val (.int (1 : Int32)), .unset]) rfl ?_
              refine g_aloadN cx d10_213 rfl rfl ?_
              refine g_iload cx d10_214 rfl ?_
              refine g_static cx (y := (⟨"com/example/crisp_typedef/crisptypedef/NumberText", "digitsEnd", "(Ljava/lang/CharSequence;I)I"⟩ : MethodName)) d10_216 (hw _ (List.mem_of_getElem? (i := 83) rfl)) (hw _ (List.mem_of_getElem? (i := 84) rfl)) (hw _ (List.mem_of_getElem? (i := 39) rfl)) (hw _ (List.mem_of_getElem? (i := 85) rfl)) (by decide) (bytes := prog_20_method_7_code) (maxL' := 3) (M := (rmde l Z a0 hw cs SCS hcs fv hfv SFV mm tx n ch _ TT OL ((en + (1 : Int32)) + (1 : Int32)) (by have i_hc128 : (en).toInt < (n).toInt := Int32.lt_iff_toInt_lt.mp hc128; have i_hc141 : ¬ ((ch en.toNatClampNeg)).toInt = ((101 : Int32)).toInt := fun z => hc141 (Int32.toInt_inj.mp z); have i_hc154 : ((ch en.toNatClampNeg)).toInt = ((69 : Int32)).toInt := congrArg Int32.toInt hc154; have i_hc163 : ((en + (1 : Int32))).toInt < (n).toInt := Int32.lt_iff_toInt_lt.mp hc163; have i_hc176 : ((ch (en + (1 : Int32)).toNatClampNeg)).toInt = ((45 : Int32)).toInt := congrArg Int32.toInt hc176; have i_hc189 : ((en + (1 : Int32))).toInt < (n).toInt := Int32.lt_iff_toInt_lt.mp hc189; have i_hc194 : ¬ ((1 : Int32)).toInt = ((0 : Int32)).toInt := fun z => hc194 (Int32.toInt_inj.mp z); have r3 := rng32 en; have e4 : (1 : Int32).toInt = 1 := rfl; have e2 := c_iadd en (1 : Int32); have r2 := rng32 (en + (1 : Int32)); have e1 := c_iadd (en + (1 : Int32)) (1 : Int32); have r1 := rng32 ((en + (1 : Int32)) + (1 : Int32)); have r5 := rng32 n; have r6 := rng32 (ch en.toNatClampNeg); have e7 : (101 : Int32).toInt = 101 := rfl; have e8 : (69 : Int32).toInt = 69 := rfl; have r9 := rng32 (ch (en + (1 : Int32)).toNatClampNeg); have e10 : (45 : Int32).toInt = 45 := rfl; have e11 : (0 : Int32).toInt = 0 := rfl; omega) (by have i_hc128 : (en).toInt < (n).toInt := Int32.lt_iff_toInt_lt.mp hc128; have i_hc141 : ¬ ((ch en.toNatClampNeg)).toInt = ((101 : Int32)).toInt := fun z => hc141 (Int32.toInt_inj.mp z); have i_hc154 : ((ch en.toNatClampNeg)).toInt = ((69 : Int32)).toInt := congrArg Int32.toInt hc154; have i_hc163 : ((en + (1 : Int32))).toInt < (n).toInt := Int32.lt_iff_toInt_lt.mp hc163; have i_hc176 : ((ch (en + (1 : Int32)).toNatClampNeg)).toInt = ((45 : Int32)).toInt := congrArg Int32.toInt hc176; have i_hc189 : ((en + (1 : Int32))).toInt < (n).toInt := Int32.lt_iff_toInt_lt.mp hc189; have i_hc194 : ¬ ((1 : Int32)).toInt = ((0 : Int32)).toInt := fun z => hc194 (Int32.toInt_inj.mp z); have r3 := rng32 en; have e4 : (1 : Int32).toInt = 1 := rfl; have e2 := c_iadd en (1 : Int32); have r2 := rng32 (en + (1 : Int32)); have e1 := c_iadd (en + (1 : Int32)) (1 : Int32); have r1 := rng32 ((en + (1 : Int32)) + (1 : Int32)); have r5 := rng32 n; have r6 := rng32 (ch en.toNatClampNeg); have e7 : (101 : Int32).toInt = 101 := rfl; have e8 : (69 : Int32).toInt = 69 := rfl; have r9 := rng32 (ch (en + (1 : Int32)).toNatClampNeg); have e10 : (45 : Int32).toInt = 45 := rfl; have e11 : (0 : Int32).toInt = 0 := rfl; omega))) rfl (lenOf pd_9 rfl) (by decide) (W := 0) (Nat.le_of_eq rfl) (by decide) (k' := 0) (n' := 0) rfl rfl (by decide) (by decide) (argsL := [(.ref tx), (.int ((en + (1 : Int32)) + (1 : Int32)))]) (rest := []) rfl (fun v277 h276 q278 => ?_)
              obtain ⟨r275, rfl, rfl, r2750, r275f, r275n, r275D⟩ := q278
              refine G.cast (st' := [(.int r275)]) ?_ rfl
              refine g_istore cx d10_219 (Ls' := #[.val (.ref tx), .val (.int n), .val (.int ng), .val (.int sa), .val (.int en), .val (.int po), .val (.long (0 : Int64)), .second, .val (.int ((en + (1 : Int32)) + (1 : Int32))), .val (.int (1 : Int32)), .val (.int r275)]) rfl ?_
              refine g_iload cx d10_221 rfl ?_
              refine g_iload cx d10_223 rfl ?_
              refine g_icmp_ne cx d10_225 (fun hc225 => ?_) (fun hc225 => ?_)
              · refine g_aloadN cx d10_230 rfl rfl ?_
                refine g_iload cx d10_231 rfl ?_
                refine g_iload cx d10_233 rfl ?_
                refine g_static cx (y := (⟨"com/example/crisp_typedef/crisptypedef/NumberText", "exponent", "(Ljava/lang/CharSequence;II)J"⟩ : MethodName)) d10_235 (hw _ (List.mem_of_getElem? (i := 164) rfl)) (hw _ (List.mem_of_getElem? (i := 165) rfl)) (hw _ (List.mem_of_getElem? (i := 39) rfl)) (hw _ (List.mem_of_getElem? (i := 166) rfl)) (by decide) (bytes := prog_20_method_8_code) (maxL' := 6) (M := (rmex l Z a0 hw cs SCS hcs fv hfv SFV mm tx n ch _ TT OL ((en + (1 : Int32)) + (1 : Int32)) r275 (by have i_hc128 : (en).toInt < (n).toInt := Int32.lt_iff_toInt_lt.mp hc128; have i_hc141 : ¬ ((ch en.toNatClampNeg)).toInt = ((101 : Int32)).toInt := fun z => hc141 (Int32.toInt_inj.mp z); have i_hc154 : ((ch en.toNatClampNeg)).toInt = ((69 : Int32)).toInt := congrArg Int32.toInt hc154; have i_hc163 : ((en + (1 : Int32))).toInt < (n).toInt := Int32.lt_iff_toInt_lt.mp hc163; have i_hc176 : ((ch (en + (1 : Int32)).toNatClampNeg)).toInt = ((45 : Int32)).toInt := congrArg Int32.toInt hc176; have i_hc189 : ((en + (1 : Int32))).toInt < (n).toInt := Int32.lt_iff_toInt_lt.mp hc189; have i_hc194 : ¬ ((1 : Int32)).toInt = ((0 : Int32)).toInt := fun z => hc194 (Int32.toInt_inj.mp z); have i_hc225 : ¬ (r275).toInt = (((en + (1 : Int32)) + (1 : Int32))).toInt := fun z => hc225 (Int32.toInt_inj.mp z); have r3 := rng32 en; have e4 : (1 : Int32).toInt = 1 := rfl; have e2 := c_iadd en (1 : Int32); have r2 := rng32 (en + (1 : Int32)); have e1 := c_iadd (en + (1 : Int32)) (1 : Int32); have r1 := rng32 ((en + (1 : Int32)) + (1 : Int32)); have r5 := rng32 r275; have r6 := rng32 n; have r7 := rng32 (ch en.toNatClampNeg); have e8 : (101 : Int32).toInt = 101 := rfl; have e9 : (69 : Int32).toInt = 69 := rfl; have r10 := rng32 (ch (en + (1 : Int32)).toNatClampNeg); have e11 : (45 : Int32).toInt = 45 := rfl; have e12 : (0 : Int32).toInt = 0 := rfl; omega) (by have i_hc128 : (en).toInt < (n).toInt := Int32.lt_iff_toInt_lt.mp hc128; have i_hc141 : ¬ ((ch en.toNatClampNeg)).toInt = ((101 : Int32)).toInt := fun z => hc141 (Int32.toInt_inj.mp z); have i_hc154 : ((ch en.toNatClampNeg)).toInt = ((69 : Int32)).toInt := congrArg Int32.toInt hc154; have i_hc163 : ((en + (1 : Int32))).toInt < (n).toInt := Int32.lt_iff_toInt_lt.mp hc163; have i_hc176 : ((ch (en + (1 : Int32)).toNatClampNeg)).toInt = ((45 : Int32)).toInt := congrArg Int32.toInt hc176; have i_hc189 : ((en + (1 : Int32))).toInt < (n).toInt := Int32.lt_iff_toInt_lt.mp hc189; have i_hc194 : ¬ ((1 : Int32)).toInt = ((0 : Int32)).toInt := fun z => hc194 (Int32.toInt_inj.mp z); have i_hc225 : ¬ (r275).toInt = (((en + (1 : Int32)) + (1 : Int32))).toInt := fun z => hc225 (Int32.toInt_inj.mp z); have r3 := rng32 en; have e4 : (1 : Int32).toInt = 1 := rfl; have e2 := c_iadd en (1 : Int32); have r2 := rng32 (en + (1 : Int32)); have e1 := c_iadd (en + (1 : Int32)) (1 : Int32); have r1 := rng32 ((en + (1 : Int32)) + (1 : Int32)); have r5 := rng32 r275; have r6 := rng32 n; have r7 := rng32 (ch en.toNatClampNeg); have e8 : (101 : Int32).toInt = 101 := rfl; have e9 : (69 : Int32).toInt = 69 := rfl; have r10 := rng32 (ch (en + (1 : Int32)).toNatClampNeg); have e11 : (45 : Int32).toInt = 45 := rfl; have e12 : (0 : Int32).toInt = 0 := rfl; omega))) rfl (lenOf pd_10 rfl) (by decide) (W := 0) (Nat.le_of_eq rfl) (by decide) (k' := 0) (n' := 0) rfl rfl (by decide) (by decide) (argsL := [(.ref tx), (.int ((en + (1 : Int32)) + (1 : Int32))), (.int r275)]) (rest := []) rfl (fun v281 h280 q282 => ?_)
                obtain ⟨x279, rfl, rfl⟩ := q282
                refine G.cast (st' := [(.long x279)]) ?_ rfl
                refine g_lstore cx d10_238 (Ls' := #[.val (.ref tx), .val (.int n), .val (.int ng), .val (.int sa), .val (.int en), .val (.int po), .val (.long x279), .second, .val (.int ((en + (1 : Int32)) + (1 : Int32))), .val (.int (1 : Int32)), .val (.int r275)]) rfl ?_
                refine g_iload cx d10_240 rfl ?_
                refine g_if_eq cx d10_242 (fun q => absurd q (fun q => by revert q; decide)) (fun hc242 => ?_)
                refine g_lload cx d10_245 rfl ?_
                refine g_lneg cx d10_247 ?_
                refine g_goto cx d10_248 ?_
                refine g_lstore cx d10_253 (Ls' := #[.val (.ref tx), .val (.int n), .val (.int ng), .val (.int sa), .val (.int en), .val (.int po), .val (.long (-x279)), .second, .val (.int ((en + (1 : Int32)) + (1 : Int32))), .val (.int (1 : Int32)), .val (.int r275)]) rfl ?_
                refine g_iload cx d10_255 rfl ?_
                refine g_istore cx d10_257 (Ls' := #[.val (.ref tx), .val (.int n), .val (.int ng), .val (.int sa), .val (.int en), .val (.int po), .val (.long (-x279)), .second, .val (.int r275), .val (.int (1 : Int32)), .val (.int r275)]) rfl ?_
                exact JE ng sa po en _ _ _ _ f1 f2 f3 f4 f5 f6 (fun _ => Or.inr ⟨Int32.lt_iff_toInt_lt.mp hc128, Or.inr (by rw [hc154]; rfl)⟩)
              · refine g_aconst_null cx d10_228 ?_
                refine g_retA cx d10_229 (t := (.object "com/example/crisp_typedef/crisptypedef/NumberText$Parts")) rfl rfl rfl rfl (by decide) (by decide) ?_
                exact Or.inl ⟨rfl, KK⟩
  have J39 : ∀ (ng sa : Int32), 0 ≤ sa.toInt → sa.toInt ≤ 1 → (sa.toInt = 1 → (ch 0).toInt = 45) → G p l e ({ frames := 5, cells := 1, slots := 5, locals := 72 } : Room) s m #[.ref tx] below meth c Z.heap.size (fun v h' => (v = some .null ∧ Keep h0 h' []) ∨ (∃ (P : Addr) (ng sa po en : Int32) (xx : Int64), v = some (.ref P) ∧ Keep h0 h' [] ∧ h0.size ≤ P ∧ ObP Z h' P (.int ng) (.int sa) (.int po) (.int en) (.long xx) ∧ own_PP n ch sa en)) h0 0 0 39 #[.val (.ref tx), .val (.int n), .val (.int ng), .val (.int sa), .unset, .unset, .unset, .unset, .unset, .unset, .unset] [] := by
    intro ng sa f1 f2 f3
    refine g_aloadN cx d10_39 rfl rfl ?_
    refine g_iloadN cx d10_40 rfl ?_
    refine g_static cx (y := (⟨"com/example/crisp_typedef/crisptypedef/NumberText", "digitsEnd", "(Ljava/lang/CharSequence;I)I"⟩ : MethodName)) d10_41 (hw _ (List.mem_of_getElem? (i := 83) rfl)) (hw _ (List.mem_of_getElem? (i := 84) rfl)) (hw _ (List.mem_of_getElem? (i := 39) rfl)) (hw _ (List.mem_of_getElem? (i := 85) rfl)) (by decide) (bytes := prog_20_method_7_code) (maxL' := 3) (M := (rmde l Z a0 hw cs SCS hcs fv hfv SFV mm tx n ch _ TT OL sa (by have r1 := rng32 sa; omega) (by have r1 := rng32 sa; omega))) rfl (lenOf pd_9 rfl) (by decide) (W := 0) (Nat.le_of_eq rfl) (by decide) (k' := 0) (n' := 0) rfl rfl (by decide) (by decide) (argsL := [(.ref tx), (.int sa)]) (rest := []) rfl (fun v303 h302 q304 => ?_)
    obtain ⟨r301, rfl, rfl, r3010, r301f, r301n, r301D⟩ := q304
    refine G.cast (st' := [(.int r301)]) ?_ rfl
    refine g_istore cx d10_44 (Ls' := #[.val (.ref tx), .val (.int n), .val (.int ng), .val (.int sa), .val (.int r301), .unset, .unset, .unset, .unset, .unset, .unset]) rfl ?_
    refine g_iload cx d10_46 rfl ?_
    refine g_iloadN cx d10_48 rfl ?_
    refine g_icmp_eq cx d10_49 (fun hc49 => ?_) (fun hc49 => ?_)
    · refine g_aconst_null cx d10_72 ?_
      refine g_retA cx d10_73 (t := (.object "com/example/crisp_typedef/crisptypedef/NumberText$Parts")) rfl rfl rfl rfl (by decide) (by decide) ?_
      exact Or.inl ⟨rfl, KK⟩
    · refine g_aloadN cx d10_52 rfl rfl ?_
      refine g_iloadN cx d10_53 rfl ?_
      refine g_interface cx (x := (⟨"java/lang/CharSequence", "charAt", "(I)C"⟩ : MethodName)) (y := (⟨"java/lang/String", "charAt", "(I)C"⟩ : MethodName)) (a := tx) d10_54 (hw _ (List.mem_of_getElem? (i := 58) rfl)) (hw _ (List.mem_of_getElem? (i := 59) rfl)) (hw _ (List.mem_of_getElem? (i := 60) rfl)) (hw _ (List.mem_of_getElem? (i := 10) rfl)) (hw _ (List.mem_of_getElem? (i := 65) rfl)) (hw _ (List.mem_of_getElem? (i := 61) rfl)) (hw _ (List.mem_of_getElem? (i := 62) rfl)) (hw _ (List.mem_of_getElem? (i := 63) rfl)) (hw _ (List.mem_of_getElem? (i := 64) rfl)) (hw _ (List.mem_of_getElem? (i := 51) rfl)) (by decide) O_tx.1 (bytes := jdk_42_method_56_code) (maxL' := 2) (M := (rmca l Z a0 hw cs SCS hcs fv hfv SFV mm tx n ch _ TT OL sa (fun q => by have i_hc49 : ¬ (r301).toInt = (sa).toInt := fun z => hc49 (Int32.toInt_inj.mp z); have i_q : (sa).toInt < ((0 : Int32)).toInt := Int32.lt_iff_toInt_lt.mp q; have r1 := rng32 r301; have r2 := rng32 sa; have e3 : (0 : Int32).toInt = 0 := rfl; omega) (Decidable.byContradiction fun q => by have i_hc49 : ¬ (r301).toInt = (sa).toInt := fun z => hc49 (Int32.toInt_inj.mp z); have i_q : ¬ (sa).toInt < (n).toInt := fun z => q (Int32.lt_iff_toInt_lt.mpr z); have r1 := rng32 r301; have r2 := rng32 sa; have r3 := rng32 n; omega))) rfl (lenOf pd_6 rfl) (by decide) (W := 0) (Nat.le_of_eq rfl) (by decide) (k' := 0) (n' := 0) rfl rfl (by decide) (by decide) (argsL := [(.int sa)]) (rest := []) rfl (fun v306 h305 q307 => ?_)
      obtain ⟨rfl, rfl⟩ := q307
      refine G.cast (st' := [(.int (ch sa.toNatClampNeg))]) ?_ rfl
      refine g_bipush cx d10_59 (v := (48 : Int32)) rfl ?_
      refine g_icmp_ne cx d10_61 (fun hc61 => ?_) (fun hc61 => ?_)
      · refine g_iload cx d10_74 rfl ?_
        refine g_istore cx d10_76 (Ls' := #[.val (.ref tx), .val (.int n), .val (.int ng), .val (.int sa), .val (.int r301), .val (.int r301), .unset, .unset, .unset, .unset, .unset]) rfl ?_
        refine g_iload cx d10_78 rfl ?_
        refine g_iloadN cx d10_80 rfl ?_
        refine g_icmp_ge cx d10_81 (fun hc81 => ?_) (fun hc81 => ?_)
        · exact J118 ng sa r301 r301 f1 f2 f3 (by omega) (by omega) (fun j a b => Or.inl (r301D j (by omega) (by omega)))
        · refine g_aloadN cx d10_84 rfl rfl ?_
          refine g_iload cx d10_85 rfl ?_
          refine g_interface cx (x := (⟨"java/lang/CharSequence", "charAt", "(I)C"⟩ : MethodName)) (y := (⟨"java/lang/String", "charAt", "(I)C"⟩ : MethodName)) (a := tx) d10_87 (hw _ (List.mem_of_getElem? (i := 58) rfl)) (hw _ (List.mem_of_getElem? (i := 59) rfl)) (hw _ (List.mem_of_getElem? (i := 60) rfl)) (hw _ (List.mem_of_getElem? (i := 10) rfl)) (hw _ (List.mem_of_getElem? (i := 65) rfl)) (hw _ (List.mem_of_getElem? (i := 61) rfl)) (hw _ (List.mem_of_getElem? (i := 62) rfl)) (hw _ (List.mem_of_getElem? (i := 63) rfl)) (hw _ (List.mem_of_getElem? (i := 64) rfl)) (hw _ (List.mem_of_getElem? (i := 51) rfl)) (by decide) O_tx.1 (bytes := jdk_42_method_56_code) (maxL' := 2) (M := (rmca l Z a0 hw cs SCS hcs fv hfv SFV mm tx n ch _ TT OL r301 (fun q => by have i_hc49 : ¬ (r301).toInt = (sa).toInt := fun z => hc49 (Int32.toInt_inj.mp z); have i_hc61 : ¬ ((ch sa.toNatClampNeg)).toInt = ((48 : Int32)).toInt := fun z => hc61 (Int32.toInt_inj.mp z); have i_hc81 : (r301).toInt < (n).toInt := Int32.lt_iff_toInt_lt.mp hc81; have i_q : (r301).toInt < ((0 : Int32)).toInt := Int32.lt_iff_toInt_lt.mp q; have r1 := rng32 r301; have r2 := rng32 sa; have r3 := rng32 (ch sa.toNatClampNeg); have e4 : (48 : Int32).toInt = 48 := rfl; have r5 := rng32 n; have e6 : (0 : Int32).toInt = 0 := rfl; omega) (Decidable.byContradiction fun q => by have i_hc49 : ¬ (r301).toInt = (sa).toInt := fun z => hc49 (Int32.toInt_inj.mp z); have i_hc61 : ¬ ((ch sa.toNatClampNeg)).toInt = ((48 : Int32)).toInt := fun z => hc61 (Int32.toInt_inj.mp z); have i_hc81 : (r301).toInt < (n).toInt := Int32.lt_iff_toInt_lt.mp hc81; have i_q : ¬ (r301).toInt < (n).toInt := fun z => q (Int32.lt_iff_toInt_lt.mpr z); have r1 := rng32 r301; have r2 := rng32 sa; have r3 := rng32 (ch sa.toNatClampNeg); have e4 : (48 : Int32).toInt = 48 := rfl; have r5 := rng32 n; omega))) rfl (lenOf pd_6 rfl) (by decide) (W := 0) (Nat.le_of_eq rfl) (by decide) (k' := 0) (n' := 0) rfl rfl (by decide) (by decide) (argsL := [(.int r301)]) (rest := []) rfl (fun v309 h308 q310 => ?_)
          obtain ⟨rfl, rfl⟩ := q310
          refine G.cast (st' := [(.int (ch r301.toNatClampNeg))]) ?_ rfl
          refine g_bipush cx d10_92 (v := (46 : Int32)) rfl ?_
          refine g_icmp_ne cx d10_94 (fun hc94 => ?_) (fun hc94 => ?_)
          · exact J118 ng sa r301 r301 f1 f2 f3 (by omega) (by omega) (fun j a b => Or.inl (r301D j (by omega) (by omega)))
          · refine g_aloadN cx d10_97 rfl rfl ?_
            refine g_iload cx d10_98 rfl ?_
            refine g_iconst cx d10_100 (v := (1 : Int32)) rfl ?_
            refine g_iadd cx d10_101 ?_
            refine g_static cx (y := (⟨"com/example/crisp_typedef/crisptypedef/NumberText", "digitsEnd", "(Ljava/lang/CharSequence;I)I"⟩ : MethodName)) d10_102 (hw _ (List.mem_of_getElem? (i := 83) rfl)) (hw _ (List.mem_of_getElem? (i := 84) rfl)) (hw _ (List.mem_of_getElem? (i := 39) rfl)) (hw _ (List.mem_of_getElem? (i := 85) rfl)) (by decide) (bytes := prog_20_method_7_code) (maxL' := 3) (M := (rmde l Z a0 hw cs SCS hcs fv hfv SFV mm tx n ch _ TT OL (r301 + (1 : Int32)) (by have i_hc49 : ¬ (r301).toInt = (sa).toInt := fun z => hc49 (Int32.toInt_inj.mp z); have i_hc61 : ¬ ((ch sa.toNatClampNeg)).toInt = ((48 : Int32)).toInt := fun z => hc61 (Int32.toInt_inj.mp z); have i_hc81 : (r301).toInt < (n).toInt := Int32.lt_iff_toInt_lt.mp hc81; have i_hc94 : ((ch r301.toNatClampNeg)).toInt = ((46 : Int32)).toInt := congrArg Int32.toInt hc94; have r2 := rng32 r301; have e3 : (1 : Int32).toInt = 1 := rfl; have e1 := c_iadd r301 (1 : Int32); have r1 := rng32 (r301 + (1 : Int32)); have r4 := rng32 sa; have r5 := rng32 (ch sa.toNatClampNeg); have e6 : (48 : Int32).toInt = 48 := rfl; have r7 := rng32 n; have r8 := rng32 (ch r301.toNatClampNeg); have e9 : (46 : Int32).toInt = 46 := rfl; omega) (by have i_hc49 : ¬ (r301).toInt = (sa).toInt := fun z => hc49 (Int32.toInt_inj.mp z); have i_hc61 : ¬ ((ch sa.toNatClampNeg)).toInt = ((48 : Int32)).toInt := fun z => hc61 (Int32.toInt_inj.mp z); have i_hc81 : (r301).toInt < (n).toInt := Int32.lt_iff_toInt_lt.mp hc81; have i_hc94 : ((ch r301.toNatClampNeg)).toInt = ((46 : Int32)).toInt := congrArg Int32.toInt hc94; have r2 := rng32 r301; have e3 : (1 : Int32).toInt = 1 := rfl; have e1 := c_iadd r301 (1 : Int32); have r1 := rng32 (r301 + (1 : Int32)); have r4 := rng32 sa; have r5 := rng32 (ch sa.toNatClampNeg); have e6 : (48 : Int32).toInt = 48 := rfl; have r7 := rng32 n; have r8 := rng32 (ch r301.toNatClampNeg); have e9 : (46 : Int32).toInt = 46 := rfl; omega))) rfl (lenOf pd_9 rfl) (by decide) (W := 0) (Nat.le_of_eq rfl) (by decide) (k' := 0) (n' := 0) rfl rfl (by decide) (by decide) (argsL := [(.ref tx), (.int (r301 + (1 : Int32)))]) (rest := []) rfl (fun v313 h312 q314 => ?_)
            obtain ⟨r311, rfl, rfl, r3110, r311f, r311n, r311D⟩ := q314
            refine G.cast (st' := [(.int r311)]) ?_ rfl
            refine g_istore cx d10_105 (Ls' := #[.val (.ref tx), .val (.int n), .val (.int ng), .val (.int sa), .val (.int r311), .val (.int r301), .unset, .unset, .unset, .unset, .unset]) rfl ?_
            refine g_iload cx d10_107 rfl ?_
            refine g_iload cx d10_109 rfl ?_
            refine g_iconst cx d10_111 (v := (1 : Int32)) rfl ?_
            refine g_iadd cx d10_112 ?_
            refine g_icmp_ne cx d10_113 (fun hc113 => ?_) (fun hc113 => ?_)
            · have e1 := own_nx r3010 hc81 n5
              have e2 := Int32.lt_iff_toInt_lt.mp hc81
              refine J118 ng sa r301 r311 f1 f2 f3 (by omega) (by omega) (fun j a b => ?_)
              rcases Int.lt_trichotomy (j : Int) r301.toInt with q | q | q
              · exact Or.inl (r301D j (by omega) (by omega))
              · exact Or.inr (own_at (P := fun z => z.toInt = 46) r3010 q (by rw [hc94]; rfl))
              · exact Or.inl (r311D j (by omega) (by omega))
            · refine g_aconst_null cx d10_116 ?_
              refine g_retA cx d10_117 (t := (.object "com/example/crisp_typedef/crisptypedef/NumberText$Parts")) rfl rfl rfl rfl (by decide) (by decide) ?_
              exact Or.inl ⟨rfl, KK⟩
      · refine g_iload cx d10_64 rfl ?_
        refine g_iloadN cx d10_66 rfl ?_
        refine g_iconst cx d10_67 (v := (1 : Int32)) rfl ?_
        refine g_iadd cx d10_68 ?_
        refine g_icmp_le cx d10_69 (fun hc69 => ?_) (fun hc69 => ?_)
        · refine g_iload cx d10_74 rfl ?_
          refine g_istore cx d10_76 (Ls' := #[.val (.ref tx), .val (.int n), .val (.int ng), .val (.int sa), .val (.int r301), .val (.int r301), .unset, .unset, .unset, .unset, .unset]) rfl ?_
          refine g_iload cx d10_78 rfl ?_
          refine g_iloadN cx d10_80 rfl ?_
          refine g_icmp_ge cx d10_81 (fun hc81 => ?_) (fun hc81 => ?_)
          · exact J118 ng sa r301 r301 f1 f2 f3 (by omega) (by omega) (fun j a b => Or.inl (r301D j (by omega) (by omega)))
          · refine g_aloadN cx d10_84 rfl rfl ?_
            refine g_iload cx d10_85 rfl ?_
            refine g_interface cx (x := (⟨"java/lang/CharSequence", "charAt", "(I)C"⟩ : MethodName)) (y := (⟨"java/lang/String", "charAt", "(I)C"⟩ : MethodName)) (a := tx) d10_87 (hw _ (List.mem_of_getElem? (i := 58) rfl)) (hw _ (List.mem_of_getElem? (i := 59) rfl)) (hw _ (List.mem_of_getElem? (i := 60) rfl)) (hw _ (List.mem_of_getElem? (i := 10) rfl)) (hw _ (List.mem_of_getElem? (i := 65) rfl)) (hw _ (List.mem_of_getElem? (i := 61) rfl)) (hw _ (List.mem_of_getElem? (i := 62) rfl)) (hw _ (List.mem_of_getElem? (i := 63) rfl)) (hw _ (List.mem_of_getElem? (i := 64) rfl)) (hw _ (List.mem_of_getElem? (i := 51) rfl)) (by decide) O_tx.1 (bytes := jdk_42_method_56_code) (maxL' := 2) (M := (rmca l Z a0 hw cs SCS hcs fv hfv SFV mm tx n ch _ TT OL r301 (fun q => by have i_hc49 : ¬ (r301).toInt = (sa).toInt := fun z => hc49 (Int32.toInt_inj.mp z); have i_hc61 : ((ch sa.toNatClampNeg)).toInt = ((48 : Int32)).toInt := congrArg Int32.toInt hc61; have i_hc69 : ¬ ((sa + (1 : Int32))).toInt < (r301).toInt := fun z => hc69 (Int32.lt_iff_toInt_lt.mpr z); have i_hc81 : (r301).toInt < (n).toInt := Int32.lt_iff_toInt_lt.mp hc81; have i_q : (r301).toInt < ((0 : Int32)).toInt := Int32.lt_iff_toInt_lt.mp q; have r1 := rng32 r301; have r2 := rng32 sa; have r3 := rng32 (ch sa.toNatClampNeg); have e4 : (48 : Int32).toInt = 48 := rfl; have e6 : (1 : Int32).toInt = 1 := rfl; have e5 := c_iadd sa (1 : Int32); have r5 := rng32 (sa + (1 : Int32)); have r7 := rng32 n; have e8 : (0 : Int32).toInt = 0 := rfl; omega) (Decidable.byContradiction fun q => by have i_hc49 : ¬ (r301).toInt = (sa).toInt := fun z => hc49 (Int32.toInt_inj.mp z); have i_hc61 : ((ch sa.toNatClampNeg)).toInt = ((48 : Int32)).toInt := congrArg Int32.toInt hc61; have i_hc69 : ¬ ((sa + (1 : Int32))).toInt < (r301).toInt := fun z => hc69 (Int32.lt_iff_toInt_lt.mpr z); have i_hc81 : (r301).toInt < (n).toInt := Int32.lt_iff_toInt_lt.mp hc81; have i_q : ¬ (r301).toInt < (n).toInt := fun z => q (Int32.lt_iff_toInt_lt.mpr z); have r1 := rng32 r301; have r2 := rng32 sa; have r3 := rng32 (ch sa.toNatClampNeg); have e4 : (48 : Int32).toInt = 48 := rfl; have e6 : (1 : Int32).toInt = 1 := rfl; have e5 := c_iadd sa (1 : Int32); have r5 := rng32 (sa + (1 : Int32)); have r7 := rng32 n; omega))) rfl (lenOf pd_6 rfl) (by decide) (W := 0) (Nat.le_of_eq rfl) (by decide) (k' := 0) (n' := 0) rfl rfl (by decide) (by decide) (argsL := [(.int r301)]) (rest := []) rfl (fun v316 h315 q317 => ?_)
            obtain ⟨rfl, rfl⟩ := q317
            refine G.cast (st' := [(.int (ch r301.toNatClampNeg))]) ?_ rfl
            refine g_bipush cx d10_92 (v := (46 : Int32)) rfl ?_
            refine g_icmp_ne cx d10_94 (fun hc94 => ?_) (fun hc94 => ?_)
            · exact J118 ng sa r301 r301 f1 f2 f3 (by omega) (by omega) (fun j a b => Or.inl (r301D j (by omega) (by omega)))
            · refine g_aloadN cx d10_97 rfl rfl ?_
              refine g_iload cx d10_98 rfl ?_
              refine g_iconst cx d10_100 (v := (1 : Int32)) rfl ?_
              refine g_iadd cx d10_101 ?_
              refine g_static cx (y := (⟨"com/example/crisp_typedef/crisptypedef/NumberText", "digitsEnd", "(Ljava/lang/CharSequence;I)I"⟩ : MethodName)) d10_102 (hw _ (List.mem_of_getElem? (i := 83) rfl)) (hw _ (List.mem_of_getElem? (i := 84) rfl)) (hw _ (List.mem_of_getElem? (i := 39) rfl)) (hw _ (List.mem_of_getElem? (i := 85) rfl)) (by decide) (bytes := prog_20_method_7_code) (maxL' := 3) (M := (rmde l Z a0 hw cs SCS hcs fv hfv SFV mm tx n ch _ TT OL (r301 + (1 : Int32)) (by have i_hc49 : ¬ (r301).toInt = (sa).toInt := fun z => hc49 (Int32.toInt_inj.mp z); have i_hc61 : ((ch sa.toNatClampNeg)).toInt = ((48 : Int32)).toInt := congrArg Int32.toInt hc61; have i_hc69 : ¬ ((sa + (1 : Int32))).toInt < (r301).toInt := fun z => hc69 (Int32.lt_iff_toInt_lt.mpr z); have i_hc81 : (r301).toInt < (n).toInt := Int32.lt_iff_toInt_lt.mp hc81; have i_hc94 : ((ch r301.toNatClampNeg)).toInt = ((46 : Int32)).toInt := congrArg Int32.toInt hc94; have r2 := rng32 r301; have e3 : (1 : Int32).toInt = 1 := rfl; have e1 := c_iadd r301 (1 : Int32); have r1 := rng32 (r301 + (1 : Int32)); have r4 := rng32 sa; have r5 := rng32 (ch sa.toNatClampNeg); have e6 : (48 : Int32).toInt = 48 := rfl; have e7 := c_iadd sa (1 : Int32); have r7 := rng32 (sa + (1 : Int32)); have r8 := rng32 n; have r9 := rng32 (ch r301.toNatClampNeg); have e10 : (46 : Int32).toInt = 46 := rfl; omega) (by have i_hc49 : ¬ (r301).toInt = (sa).toInt := fun z => hc49 (Int32.toInt_inj.mp z); have i_hc61 : ((ch sa.toNatClampNeg)).toInt = ((48 : Int32)).toInt := congrArg Int32.toInt hc61; have i_hc69 : ¬ ((sa + (1 : Int32))).toInt < (r301).toInt := fun z => hc69 (Int32.lt_iff_toInt_lt.mpr z); have i_hc81 : (r301).toInt < (n).toInt := Int32.lt_iff_toInt_lt.mp hc81; have i_hc94 : ((ch r301.toNatClampNeg)).toInt = ((46 : Int32)).toInt := congrArg Int32.toInt hc94; have r2 := rng32 r301; have e3 : (1 : Int32).toInt = 1 := rfl; have e1 := c_iadd r301 (1 : Int32); have r1 := rng32 (r301 + (1 : Int32)); have r4 := rng32 sa; have r5 := rng32 (ch sa.toNatClampNeg); have e6 : (48 : Int32).toInt = 48 := rfl; have e7 := c_iadd sa (1 : Int32); have r7 := rng32 (sa + (1 : Int32)); have r8 := rng32 n; have r9 := rng32 (ch r301.toNatClampNeg); have e10 : (46 : Int32).toInt = 46 := rfl; omega))) rfl (lenOf pd_9 rfl) (by decide) (W := 0) (Nat.le_of_eq rfl) (by decide) (k' := 0) (n' := 0) rfl rfl (by decide) (by decide) (argsL := [(.ref tx), (.int (r301 + (1 : Int32)))]) (rest := []) rfl (fun v320 h319 q321 => ?_)
              obtain ⟨r318, rfl, rfl, r3180, r318f, r318n, r318D⟩ := q321
              refine G.cast (st' := [(.int r318)]) ?_ rfl
              refine g_istore cx d10_105 (Ls' := #[.val (.ref tx), .val (.int n), .val (.int ng), .val (.int sa), .val (.int r318), .val (.int r301), .unset, .unset, .unset, .unset, .unset]) rfl ?_
              refine g_iload cx d10_107 rfl ?_
              refine g_iload cx d10_109 rfl ?_
              refine g_iconst cx d10_111 (v := (1 : Int32)) rfl ?_
              refine g_iadd cx d10_112 ?_
              refine g_icmp_ne cx d10_113 (fun hc113 => ?_) (fun hc113 => ?_)
              · have e1 := own_nx r3010 hc81 n5
                have e2 := Int32.lt_iff_toInt_lt.mp hc81
                refine J118 ng sa r301 r318 f1 f2 f3 (by omega) (by omega) (fun j a b => ?_)
                rcases Int.lt_trichotomy (j : Int) r301.toInt with q | q | q
                · exact Or.inl (r301D j (by omega) (by omega))
                · exact Or.inr (own_at (P := fun z => z.toInt = 46) r3010 q (by rw [hc94]; rfl))
                · exact Or.inl (r318D j (by omega) (by omega))
              · refine g_aconst_null cx d10_116 ?_
                refine g_retA cx d10_117 (t := (.object "com/example/crisp_typedef/crisptypedef/NumberText$Parts")) rfl rfl rfl rfl (by decide) (by decide) ?_
                exact Or.inl ⟨rfl, KK⟩
        · refine g_aconst_null cx d10_72 ?_
          refine g_retA cx d10_73 (t := (.object "com/example/crisp_typedef/crisptypedef/NumberText$Parts")) rfl rfl rfl rfl (by decide) (by decide) ?_
          exact Or.inl ⟨rfl, KK⟩
  refine g_aloadN cx d10_0 rfl rfl ?_
  refine g_interface cx (x := (⟨"java/lang/CharSequence", "length", "()I"⟩ : MethodName)) (y := (⟨"java/lang/String", "length", "()I"⟩ : MethodName)) (a := tx) d10_1 (hw _ (List.mem_of_getElem? (i := 44) rfl)) (hw _ (List.mem_of_getElem? (i := 45) rfl)) (hw _ (List.mem_of_getElem? (i := 46) rfl)) (hw _ (List.mem_of_getElem? (i := 10) rfl)) (hw _ (List.mem_of_getElem? (i := 52) rfl)) (hw _ (List.mem_of_getElem? (i := 47) rfl)) (hw _ (List.mem_of_getElem? (i := 48) rfl)) (hw _ (List.mem_of_getElem? (i := 49) rfl)) (hw _ (List.mem_of_getElem? (i := 50) rfl)) (hw _ (List.mem_of_getElem? (i := 51) rfl)) (by decide) O_tx.1 (bytes := jdk_42_method_54_code) (maxL' := 1) (M := (rmln l Z a0 hw cs SCS hcs mm tx n ch _ TT OL)) rfl (lenOf pd_5 rfl) (by decide) (W := 0) (Nat.le_of_eq rfl) (by decide) (k' := 0) (n' := 0) rfl rfl (by decide) (by decide) (argsL := []) (rest := []) rfl (fun v2 h1 q3 => ?_)
  obtain ⟨rfl, rfl⟩ := q3
  refine G.cast (st' := [(.int n)]) ?_ rfl
  refine g_istoreN cx d10_6 (Ls' := #[.val (.ref tx), .val (.int n), .unset, .unset, .unset, .unset, .unset, .unset, .unset, .unset, .unset]) rfl ?_
  refine g_iloadN cx d10_7 rfl ?_
  refine g_if_le cx d10_8 (fun q => absurd q (fun q => by have i_q : ¬ ((0 : Int32)).toInt < (n).toInt := fun z => q (Int32.lt_iff_toInt_lt.mpr z); have e1 : (0 : Int32).toInt = 0 := rfl; have r2 := rng32 n; omega)) (fun hc8 => ?_)
  refine g_aloadN cx d10_11 rfl rfl ?_
  refine g_iconst cx d10_12 (v := (0 : Int32)) rfl ?_
  refine g_interface cx (x := (⟨"java/lang/CharSequence", "charAt", "(I)C"⟩ : MethodName)) (y := (⟨"java/lang/String", "charAt", "(I)C"⟩ : MethodName)) (a := tx) d10_13 (hw _ (List.mem_of_getElem? (i := 58) rfl)) (hw _ (List.mem_of_getElem? (i := 59) rfl)) (hw _ (List.mem_of_getElem? (i := 60) rfl)) (hw _ (List.mem_of_getElem? (i := 10) rfl)) (hw _ (List.mem_of_getElem? (i := 65) rfl)) (hw _ (List.mem_of_getElem? (i := 61) rfl)) (hw _ (List.mem_of_getElem? (i := 62) rfl)) (hw _ (List.mem_of_getElem? (i := 63) rfl)) (hw _ (List.mem_of_getElem? (i := 64) rfl)) (hw _ (List.mem_of_getElem? (i := 51) rfl)) (by decide) O_tx.1 (bytes := jdk_42_method_56_code) (maxL' := 2) (M := (rmca l Z a0 hw cs SCS hcs fv hfv SFV mm tx n ch _ TT OL (0 : Int32) (fun q => by have i_hc8 : ((0 : Int32)).toInt < (n).toInt := Int32.lt_iff_toInt_lt.mp hc8; have i_q : ((0 : Int32)).toInt < ((0 : Int32)).toInt := Int32.lt_iff_toInt_lt.mp q; have e1 : (0 : Int32).toInt = 0 := rfl; have r2 := rng32 n; omega) (Decidable.byContradiction fun q => by have i_hc8 : ((0 : Int32)).toInt < (n).toInt := Int32.lt_iff_toInt_lt.mp hc8; have i_q : ¬ ((0 : Int32)).toInt < (n).toInt := fun z => q (Int32.lt_iff_toInt_lt.mpr z); have e1 : (0 : Int32).toInt = 0 := rfl; have r2 := rng32 n; omega))) rfl (lenOf pd_6 rfl) (by decide) (W := 0) (Nat.le_of_eq rfl) (by decide) (k' := 0) (n' := 0) rfl rfl (by decide) (by decide) (argsL := [(.int (0 : Int32))]) (rest := []) rfl (fun v5 h4 q6 => ?_)
  obtain ⟨rfl, rfl⟩ := q6
  refine G.cast (st' := [(.int (ch (0 : Int32).toNatClampNeg))]) ?_ rfl
  refine g_bipush cx d10_18 (v := (45 : Int32)) rfl ?_
  refine g_icmp_ne cx d10_20 (fun hc20 => ?_) (fun hc20 => ?_)
  · refine g_iconst cx d10_27 (v := (0 : Int32)) rfl ?_
    refine g_istoreN cx d10_28 (Ls' := #[.val (.ref tx), .val (.int n), .val (.int (0 : Int32)), .unset, .unset, .unset, .unset, .unset, .unset, .unset, .unset]) rfl ?_
    refine g_iloadN cx d10_29 rfl ?_
    refine g_if_eq cx d10_30 (fun hc30 => ?_) (fun q => absurd q (fun q => by revert q; decide))
    refine g_iconst cx d10_37 (v := (0 : Int32)) rfl ?_
    refine g_istoreN cx d10_38 (Ls' := #[.val (.ref tx), .val (.int n), .val (.int (0 : Int32)), .val (.int (0 : Int32)), .unset, .unset, .unset, .unset, .unset, .unset, .unset]) rfl ?_
    exact J39 (0 : Int32) (0 : Int32) (by decide) (by decide) (fun q => absurd q (by decide))
  · refine g_iconst cx d10_23 (v := (1 : Int32)) rfl ?_
    refine g_goto cx d10_24 ?_
    refine g_istoreN cx d10_28 (Ls' := #[.val (.ref tx), .val (.int n), .val (.int (1 : Int32)), .unset, .unset, .unset, .unset, .unset, .unset, .unset, .unset]) rfl ?_
    refine g_iloadN cx d10_29 rfl ?_
    refine g_if_eq cx d10_30 (fun q => absurd q (fun q => by revert q; decide)) (fun hc30 => ?_)
    refine g_iconst cx d10_33 (v := (1 : Int32)) rfl ?_
    refine g_goto cx d10_34 ?_
    refine g_istoreN cx d10_38 (Ls' := #[.val (.ref tx), .val (.int n), .val (.int (1 : Int32)), .val (.int (1 : Int32)), .unset, .unset, .unset, .unset, .unset, .unset, .unset]) rfl ?_
    exact J39 (1 : Int32) (1 : Int32) (by decide) (by decide) (fun _ => by have := congrArg Int32.toInt hc20; exact this)
theorem own_pv {i : Int32} (i0 : 0 ≤ i.toInt) : (i + (-1 : Int32)).toInt = i.toInt - 1 := by
  have e1 : (-1 : Int32).toInt = -1 := rfl
  have w := c_iadd i (-1 : Int32)
  have w2 := rng32 (i + (-1 : Int32))
  have w3 := rng32 i
  omega
theorem own_sb1 {i : Int32} (i0 : 0 ≤ i.toInt) : (i - (1 : Int32)).toInt = i.toInt - 1 := by
  have e1 : (1 : Int32).toInt = 1 := rfl
  have w := c_isub i (1 : Int32)
  have w2 := rng32 (i - (1 : Int32))
  have w3 := rng32 i
  omega
theorem d9_50 : Dc prog_20_method_5_code 50 (.iload_n 3) 1 51 := ⟨by decide +kernel, rfl⟩
theorem d9_51 : Dc prog_20_method_5_code 51 (.iload_n 2) 1 52 := ⟨by decide +kernel, rfl⟩
theorem d9_52 : Bi prog_20_method_5_code 52 (Instr.if_icmp .lt) 74 55 := ⟨22, by decide +kernel, by decide, by decide, rfl⟩
theorem d9_74 : Dc prog_20_method_5_code 74 (.aload_n 1) 1 75 := ⟨by decide +kernel, rfl⟩
theorem d24_0 : Dc prog_21_method_7_code 0 (.aload_n 0) 1 1 := ⟨by decide +kernel, rfl⟩
theorem d24_1 : Dc prog_21_method_7_code 1 (.getfield 17) 3 4 := ⟨by decide +kernel, rfl⟩
theorem d24_4 : Dc prog_21_method_7_code 4 (.ireturn) 1 5 := ⟨by decide +kernel, rfl⟩
theorem pn_rg1 : plainName "com/example/crisp_typedef/crisptypedef/NumberText$Parts" = true := by first | (simp [plainName, overriddenIn]; done) | decide +kernel
set_option maxRecDepth 65536 in
set_option maxHeartbeats 40000000 in
theorem rg1 (l : Launch) (Z : State) (a0 : Array Value) (hw : ∀ d ∈ tables_1, d.before a0 Z = true)  (ad0 : Addr) (x0 : Int32) (x1 : Int32) (x2 : Int32) (x3 : Int32) (x4 : Int64) (h0 : Heap) (O_ad0 : ObP Z h0 ad0 (.int x0) (.int x1) (.int x2) (.int x3) (.long x4)) (OL : Old Z Z.heap.size h0) :
    Met l Z (⟨"com/example/crisp_typedef/crisptypedef/NumberText$Parts", "point", "()I"⟩ : MethodName) prog_21_method_7_code 1 (some .int) ({ frames := 0, cells := 0, slots := 0, locals := 0 } : Room) #[(.ref ad0)] h0 (fun v h' => (v = some (.int x2) ∧ h0 = h')) := by
  refine met_of (Ls := #[.val (.ref ad0)]) (plainFor_of_name pn_rg1) (fun m => by first | (simp [entryFrame, mkF, argsToLocals, Value.category]; done) | rfl) (fun p e s m below meth c cx => ?_)
  have KK := Keep.refl h0 []
  refine g_aloadN cx d24_0 rfl rfl ?_
  refine g_getF cx d24_1 (host := "") (Or.inl (hw _ (List.mem_of_getElem? (i := 102) rfl))) Via.refl O_ad0.2.2.2.1 ?_
  refine g_retI cx d24_4 rfl (by decide) (by decide) ?_
  exact ⟨rfl, rfl⟩
theorem d9_75 : Dc prog_20_method_5_code 75 (.invokevirtual 79) 3 78 := ⟨by decide +kernel, rfl⟩
theorem d9_78 : Dc prog_20_method_5_code 78 (.istore 4) 2 80 := ⟨by decide +kernel, rfl⟩
theorem d9_80 : Dc prog_20_method_5_code 80 (.iload_n 3) 1 81 := ⟨by decide +kernel, rfl⟩
theorem d9_81 : Dc prog_20_method_5_code 81 (.iload 4) 2 83 := ⟨by decide +kernel, rfl⟩
theorem d9_83 : Bi prog_20_method_5_code 83 (Instr.if_icmp .ge) 96 86 := ⟨13, by decide +kernel, by decide, by decide, rfl⟩
theorem d9_96 : Dc prog_20_method_5_code 96 (.iload 4) 2 98 := ⟨by decide +kernel, rfl⟩
theorem d9_98 : Dc prog_20_method_5_code 98 (.iload_n 3) 1 99 := ⟨by decide +kernel, rfl⟩
theorem d9_99 : Dc prog_20_method_5_code 99 (.isub) 1 100 := ⟨by decide +kernel, rfl⟩
theorem d9_100 : Dc prog_20_method_5_code 100 (.i2l) 1 101 := ⟨by decide +kernel, rfl⟩
theorem d9_101 : Dc prog_20_method_5_code 101 (.lstore 5) 2 103 := ⟨by decide +kernel, rfl⟩
theorem d9_103 : Dc prog_20_method_5_code 103 (.new 36) 3 106 := ⟨by decide +kernel, rfl⟩
theorem d9_106 : Dc prog_20_method_5_code 106 (.dup) 1 107 := ⟨by decide +kernel, rfl⟩
theorem d9_107 : Dc prog_20_method_5_code 107 (.aload_n 1) 1 108 := ⟨by decide +kernel, rfl⟩
theorem d25_0 : Dc prog_21_method_5_code 0 (.aload_n 0) 1 1 := ⟨by decide +kernel, rfl⟩
theorem d25_1 : Dc prog_21_method_5_code 1 (.getfield 7) 3 4 := ⟨by decide +kernel, rfl⟩
theorem d25_4 : Dc prog_21_method_5_code 4 (.ireturn) 1 5 := ⟨by decide +kernel, rfl⟩
theorem pn_rg2 : plainName "com/example/crisp_typedef/crisptypedef/NumberText$Parts" = true := by first | (simp [plainName, overriddenIn]; done) | decide +kernel
set_option maxRecDepth 65536 in
set_option maxHeartbeats 40000000 in
theorem rg2 (l : Launch) (Z : State) (a0 : Array Value) (hw : ∀ d ∈ tables_1, d.before a0 Z = true)  (ad0 : Addr) (x0 : Int32) (x1 : Int32) (x2 : Int32) (x3 : Int32) (x4 : Int64) (h0 : Heap) (O_ad0 : ObP Z h0 ad0 (.int x0) (.int x1) (.int x2) (.int x3) (.long x4)) (OL : Old Z Z.heap.size h0) :
    Met l Z (⟨"com/example/crisp_typedef/crisptypedef/NumberText$Parts", "negative", "()Z"⟩ : MethodName) prog_21_method_5_code 1 (some .boolean) ({ frames := 0, cells := 0, slots := 0, locals := 0 } : Room) #[(.ref ad0)] h0 (fun v h' => (v = some (.int (nar .boolean x0)) ∧ h0 = h')) := by
  refine met_of (Ls := #[.val (.ref ad0)]) (plainFor_of_name pn_rg2) (fun m => by first | (simp [entryFrame, mkF, argsToLocals, Value.category]; done) | rfl) (fun p e s m below meth c cx => ?_)
  have KK := Keep.refl h0 []
  refine g_aloadN cx d25_0 rfl rfl ?_
  refine g_getF cx d25_1 (host := "") (Or.inl (hw _ (List.mem_of_getElem? (i := 98) rfl))) Via.refl O_ad0.2.1 ?_
  refine g_retN cx d25_4 (t := .boolean) rfl (by simp) (by decide) (by decide) ?_
  exact ⟨rfl, rfl⟩
theorem d9_108 : Dc prog_20_method_5_code 108 (.invokevirtual 80) 3 111 := ⟨by decide +kernel, rfl⟩
theorem d9_111 : Dc prog_20_method_5_code 111 (.iload_n 2) 1 112 := ⟨by decide +kernel, rfl⟩
theorem d9_112 : Dc prog_20_method_5_code 112 (.iload_n 3) 1 113 := ⟨by decide +kernel, rfl⟩
theorem d9_113 : Dc prog_20_method_5_code 113 (.iload 4) 2 115 := ⟨by decide +kernel, rfl⟩
theorem d9_115 : Dc prog_20_method_5_code 115 (.lload 5) 2 117 := ⟨by decide +kernel, rfl⟩
theorem d9_117 : Dc prog_20_method_5_code 117 (.aload_n 1) 1 118 := ⟨by decide +kernel, rfl⟩
theorem d26_0 : Dc prog_21_method_9_code 0 (.aload_n 0) 1 1 := ⟨by decide +kernel, rfl⟩
theorem d26_1 : Dc prog_21_method_9_code 1 (.getfield 23) 3 4 := ⟨by decide +kernel, rfl⟩
theorem d26_4 : Dc prog_21_method_9_code 4 (.lreturn) 1 5 := ⟨by decide +kernel, rfl⟩
theorem pn_rg3 : plainName "com/example/crisp_typedef/crisptypedef/NumberText$Parts" = true := by first | (simp [plainName, overriddenIn]; done) | decide +kernel
set_option maxRecDepth 65536 in
set_option maxHeartbeats 40000000 in
theorem rg3 (l : Launch) (Z : State) (a0 : Array Value) (hw : ∀ d ∈ tables_1, d.before a0 Z = true)  (ad0 : Addr) (x0 : Int32) (x1 : Int32) (x2 : Int32) (x3 : Int32) (x4 : Int64) (h0 : Heap) (O_ad0 : ObP Z h0 ad0 (.int x0) (.int x1) (.int x2) (.int x3) (.long x4)) (OL : Old Z Z.heap.size h0) :
    Met l Z (⟨"com/example/crisp_typedef/crisptypedef/NumberText$Parts", "exponent", "()J"⟩ : MethodName) prog_21_method_9_code 1 (some .long) ({ frames := 0, cells := 0, slots := 0, locals := 0 } : Room) #[(.ref ad0)] h0 (fun v h' => (v = some (.long x4) ∧ h0 = h')) := by
  refine met_of (Ls := #[.val (.ref ad0)]) (plainFor_of_name pn_rg3) (fun m => by first | (simp [entryFrame, mkF, argsToLocals, Value.category]; done) | rfl) (fun p e s m below meth c cx => ?_)
  have KK := Keep.refl h0 []
  refine g_aloadN cx d26_0 rfl rfl ?_
  refine g_getF cx d26_1 (host := "") (Or.inl (hw _ (List.mem_of_getElem? (i := 106) rfl))) Via.refl O_ad0.2.2.2.2.2 ?_
  refine g_retJ cx d26_4 rfl (by decide) (by decide) ?_
  exact ⟨rfl, rfl⟩
theorem pd_11 : parseMethodDescriptor "()J" = some ⟨[], some .long⟩ := by decide +kernel
theorem d9_118 : Dc prog_20_method_5_code 118 (.invokevirtual 81) 3 121 := ⟨by decide +kernel, rfl⟩
theorem d9_121 : Dc prog_20_method_5_code 121 (.ladd) 1 122 := ⟨by decide +kernel, rfl⟩
theorem d9_122 : Dc prog_20_method_5_code 122 (.invokespecial 84) 3 125 := ⟨by decide +kernel, rfl⟩
theorem d9_125 : Dc prog_20_method_5_code 125 (.areturn) 1 126 := ⟨by decide +kernel, rfl⟩
theorem d9_86 : Dc prog_20_method_5_code 86 (.iload 4) 2 88 := ⟨by decide +kernel, rfl⟩
theorem d9_88 : Dc prog_20_method_5_code 88 (.iload_n 3) 1 89 := ⟨by decide +kernel, rfl⟩
theorem d9_89 : Dc prog_20_method_5_code 89 (.isub) 1 90 := ⟨by decide +kernel, rfl⟩
theorem d9_90 : Dc prog_20_method_5_code 90 (.iconst 1) 1 91 := ⟨by decide +kernel, rfl⟩
theorem d9_91 : Dc prog_20_method_5_code 91 (.isub) 1 92 := ⟨by decide +kernel, rfl⟩
theorem d9_92 : Dc prog_20_method_5_code 92 (.i2l) 1 93 := ⟨by decide +kernel, rfl⟩
theorem d9_93 : Bi prog_20_method_5_code 93 (Instr.goto) 101 96 := ⟨8, by decide +kernel, by decide, by decide, rfl⟩
theorem d9_55 : Dc prog_20_method_5_code 55 (.aload_n 0) 1 56 := ⟨by decide +kernel, rfl⟩
theorem d9_56 : Dc prog_20_method_5_code 56 (.iload_n 3) 1 57 := ⟨by decide +kernel, rfl⟩
theorem d9_57 : Dc prog_20_method_5_code 57 (.invokeinterface 19 2) 5 62 := ⟨by decide +kernel, rfl⟩
theorem pd_12 : parseMethodDescriptor "(C)Z" = some ⟨[.char], some .boolean⟩ := by decide +kernel
theorem d9_62 : Dc prog_20_method_5_code 62 (.invokestatic 75) 3 65 := ⟨by decide +kernel, rfl⟩
theorem d9_65 : Bi prog_20_method_5_code 65 (Instr.ifCond .eq) 74 68 := ⟨9, by decide +kernel, by decide, by decide, rfl⟩
theorem d9_68 : Dc prog_20_method_5_code 68 (.iinc 3 (-1)) 3 71 := ⟨by decide +kernel, rfl⟩
theorem d9_71 : Bi prog_20_method_5_code 71 (Instr.goto) 50 74 := ⟨(-21), by decide +kernel, by decide, by decide, rfl⟩
theorem d9_16 : Dc prog_20_method_5_code 16 (.iload_n 2) 1 17 := ⟨by decide +kernel, rfl⟩
theorem d9_17 : Dc prog_20_method_5_code 17 (.aload_n 1) 1 18 := ⟨by decide +kernel, rfl⟩
theorem d22_0 : Dc prog_21_method_8_code 0 (.aload_n 0) 1 1 := ⟨by decide +kernel, rfl⟩
theorem d22_1 : Dc prog_21_method_8_code 1 (.getfield 20) 3 4 := ⟨by decide +kernel, rfl⟩
theorem d22_4 : Dc prog_21_method_8_code 4 (.ireturn) 1 5 := ⟨by decide +kernel, rfl⟩
theorem pn_rg4 : plainName "com/example/crisp_typedef/crisptypedef/NumberText$Parts" = true := by first | (simp [plainName, overriddenIn]; done) | decide +kernel
set_option maxRecDepth 65536 in
set_option maxHeartbeats 40000000 in
theorem rg4 (l : Launch) (Z : State) (a0 : Array Value) (hw : ∀ d ∈ tables_1, d.before a0 Z = true)  (ad0 : Addr) (x0 : Int32) (x1 : Int32) (x2 : Int32) (x3 : Int32) (x4 : Int64) (h0 : Heap) (O_ad0 : ObP Z h0 ad0 (.int x0) (.int x1) (.int x2) (.int x3) (.long x4)) (OL : Old Z Z.heap.size h0) :
    Met l Z (⟨"com/example/crisp_typedef/crisptypedef/NumberText$Parts", "end", "()I"⟩ : MethodName) prog_21_method_8_code 1 (some .int) ({ frames := 0, cells := 0, slots := 0, locals := 0 } : Room) #[(.ref ad0)] h0 (fun v h' => (v = some (.int x3) ∧ h0 = h')) := by
  refine met_of (Ls := #[.val (.ref ad0)]) (plainFor_of_name pn_rg4) (fun m => by first | (simp [entryFrame, mkF, argsToLocals, Value.category]; done) | rfl) (fun p e s m below meth c cx => ?_)
  have KK := Keep.refl h0 []
  refine g_aloadN cx d22_0 rfl rfl ?_
  refine g_getF cx d22_1 (host := "") (Or.inl (hw _ (List.mem_of_getElem? (i := 104) rfl))) Via.refl O_ad0.2.2.2.2.1 ?_
  refine g_retI cx d22_4 rfl (by decide) (by decide) ?_
  exact ⟨rfl, rfl⟩
theorem d9_18 : Dc prog_20_method_5_code 18 (.invokevirtual 72) 3 21 := ⟨by decide +kernel, rfl⟩
theorem d9_21 : Bi prog_20_method_5_code 21 (Instr.if_icmp .ge) 43 24 := ⟨22, by decide +kernel, by decide, by decide, rfl⟩
theorem d9_43 : Dc prog_20_method_5_code 43 (.aload_n 1) 1 44 := ⟨by decide +kernel, rfl⟩
theorem d9_44 : Dc prog_20_method_5_code 44 (.invokevirtual 72) 3 47 := ⟨by decide +kernel, rfl⟩
theorem d9_47 : Dc prog_20_method_5_code 47 (.iconst 1) 1 48 := ⟨by decide +kernel, rfl⟩
theorem d9_48 : Dc prog_20_method_5_code 48 (.isub) 1 49 := ⟨by decide +kernel, rfl⟩
theorem d9_49 : Dc prog_20_method_5_code 49 (.istore_n 3) 1 50 := ⟨by decide +kernel, rfl⟩
theorem d9_24 : Dc prog_20_method_5_code 24 (.aload_n 0) 1 25 := ⟨by decide +kernel, rfl⟩
theorem d9_25 : Dc prog_20_method_5_code 25 (.iload_n 2) 1 26 := ⟨by decide +kernel, rfl⟩
theorem d9_26 : Dc prog_20_method_5_code 26 (.invokeinterface 19 2) 5 31 := ⟨by decide +kernel, rfl⟩
theorem d9_31 : Dc prog_20_method_5_code 31 (.invokestatic 75) 3 34 := ⟨by decide +kernel, rfl⟩
theorem d9_34 : Bi prog_20_method_5_code 34 (Instr.ifCond .eq) 43 37 := ⟨9, by decide +kernel, by decide, by decide, rfl⟩
theorem d9_37 : Dc prog_20_method_5_code 37 (.iinc 2 1) 3 40 := ⟨by decide +kernel, rfl⟩
theorem d9_40 : Bi prog_20_method_5_code 40 (Instr.goto) 16 43 := ⟨(-24), by decide +kernel, by decide, by decide, rfl⟩
theorem d9_0 : Dc prog_20_method_5_code 0 (.aload_n 0) 1 1 := ⟨by decide +kernel, rfl⟩
theorem pd_13 : parseMethodDescriptor "(Ljava/lang/CharSequence;)Lcom/example/crisp_typedef/crisptypedef/NumberText$Parts;" = some ⟨[(.object "java/lang/CharSequence")], some (.object "com/example/crisp_typedef/crisptypedef/NumberText$Parts")⟩ := by decide +kernel
theorem d9_1 : Dc prog_20_method_5_code 1 (.invokestatic 7) 3 4 := ⟨by decide +kernel, rfl⟩
theorem d9_4 : Dc prog_20_method_5_code 4 (.astore_n 1) 1 5 := ⟨by decide +kernel, rfl⟩
theorem d9_5 : Dc prog_20_method_5_code 5 (.aload_n 1) 1 6 := ⟨by decide +kernel, rfl⟩
theorem d9_6 : Bi prog_20_method_5_code 6 (Instr.ifnonnull) 11 9 := ⟨5, by decide +kernel, by decide, by decide, rfl⟩
theorem d9_9 : Dc prog_20_method_5_code 9 (.aconst_null) 1 10 := ⟨by decide +kernel, rfl⟩
theorem d9_10 : Dc prog_20_method_5_code 10 (.areturn) 1 11 := ⟨by decide +kernel, rfl⟩
theorem d9_11 : Dc prog_20_method_5_code 11 (.aload_n 1) 1 12 := ⟨by decide +kernel, rfl⟩
theorem d21_0 : Dc prog_21_method_6_code 0 (.aload_n 0) 1 1 := ⟨by decide +kernel, rfl⟩
theorem d21_1 : Dc prog_21_method_6_code 1 (.getfield 13) 3 4 := ⟨by decide +kernel, rfl⟩
theorem d21_4 : Dc prog_21_method_6_code 4 (.ireturn) 1 5 := ⟨by decide +kernel, rfl⟩
theorem pn_rg5 : plainName "com/example/crisp_typedef/crisptypedef/NumberText$Parts" = true := by first | (simp [plainName, overriddenIn]; done) | decide +kernel
set_option maxRecDepth 65536 in
set_option maxHeartbeats 40000000 in
theorem rg5 (l : Launch) (Z : State) (a0 : Array Value) (hw : ∀ d ∈ tables_1, d.before a0 Z = true)  (ad0 : Addr) (x0 : Int32) (x1 : Int32) (x2 : Int32) (x3 : Int32) (x4 : Int64) (h0 : Heap) (O_ad0 : ObP Z h0 ad0 (.int x0) (.int x1) (.int x2) (.int x3) (.long x4)) (g_ad0 : Z.heap.size ≤ ad0) (OL : Old Z Z.heap.size h0) :
    Met l Z (⟨"com/example/crisp_typedef/crisptypedef/NumberText$Parts", "start", "()I"⟩ : MethodName) prog_21_method_6_code 1 (some .int) ({ frames := 0, cells := 0, slots := 0, locals := 0 } : Room) #[(.ref ad0)] h0 (fun v h' => (v = some (.int x1) ∧ h0 = h')) := by
  refine met_of (Ls := #[.val (.ref ad0)]) (plainFor_of_name pn_rg5) (fun m => by first | (simp [entryFrame, mkF, argsToLocals, Value.category]; done) | rfl) (fun p e s m below meth c cx => ?_)
  have KK := Keep.refl h0 []
  refine g_aloadN cx d21_0 rfl rfl ?_
  refine g_getF cx d21_1 (host := "") (Or.inl (hw _ (List.mem_of_getElem? (i := 100) rfl))) Via.refl O_ad0.2.2.1 ?_
  refine g_retI cx d21_4 rfl (by decide) (by decide) ?_
  exact ⟨rfl, rfl⟩
theorem d9_12 : Dc prog_20_method_5_code 12 (.invokevirtual 67) 3 15 := ⟨by decide +kernel, rfl⟩
theorem d9_15 : Dc prog_20_method_5_code 15 (.istore_n 2) 1 16 := ⟨by decide +kernel, rfl⟩
theorem pn_rmsg : plainName "com/example/crisp_typedef/crisptypedef/NumberText" = true := by first | (simp [plainName, overriddenIn]; done) | decide +kernel
set_option maxRecDepth 65536 in
set_option maxHeartbeats 40000000 in
theorem rmsg (l : Launch) (Z : State) (a0 : Array Value) (hw : ∀ d ∈ tables_1, d.before a0 Z = true) (cs : Int32) (SCS : Sta Z Z.heap "java/lang/String" "COMPACT_STRINGS" "Z" (.int cs)) (hcs : ¬ cs = (0 : Int32)) (fv : Value) (hfv : fv = .null ∨ ∃ fa, fv = .ref fa) (SFV : Sta Z Z.heap "jdk/internal/util/Preconditions" "SIOOBE_FORMATTER" "Ljava/util/function/BiFunction;" fv) (mm : Nat) (tx : Addr) (n : Int32) (ch : Nat → Int32) (h0 : Heap) (TT : own_T Z h0 mm tx n ch) (OL : Old Z Z.heap.size h0) :
    Met l Z (⟨"com/example/crisp_typedef/crisptypedef/NumberText", "significand", "(Ljava/lang/CharSequence;)Lcom/example/crisp_typedef/crisptypedef/NumberText$Significand;"⟩ : MethodName) prog_20_method_5_code 7 (some (.object "com/example/crisp_typedef/crisptypedef/NumberText$Significand")) ({ frames := 6, cells := 2, slots := 10, locals := 94 } : Room) #[(.ref tx)] h0 (fun v h' => (v = some .null ∧ Keep h0 h' []) ∨ (∃ (g : Addr) (ng fi la po : Int32) (pw : Int64), v = some (.ref g) ∧ Keep h0 h' [] ∧ h0.size ≤ g ∧ ObG Z h' g (.int ng) (.int fi) (.int la) (.int po) (.long pw) ∧ own_RR n ch fi la)) := by
  refine met_of (Ls := #[.val (.ref tx), .unset, .unset, .unset, .unset, .unset, .unset]) (plainFor_of_name pn_rmsg) (fun m => by first | (simp [entryFrame, mkF, argsToLocals, Value.category]; done) | rfl) (fun p e s m below meth c cx => ?_)
  obtain ⟨hmh, n1, n5, hch⟩ := own_Tn TT
  have O_tx := own_Tx TT
  have KK := Keep.refl h0 []
  have loop2 : ∀ (h : Heap) (P : Addr) (ng sa po en : Int32) (xx : Int64) (fi : Int32), Old Z Z.heap.size h → Keep h0 h [] → own_T Z h mm tx n ch → ObP Z h P (.int ng) (.int sa) (.int po) (.int en) (.long xx) → own_PP n ch sa en → sa.toInt ≤ fi.toInt → fi.toInt ≤ en.toInt → (∀ j : Nat, sa.toInt ≤ (j : Int) → (j : Int) < fi.toInt → own_z (ch j)) → ∀ (fw : Nat) (la : Int32), la.toInt - fi.toInt + 1 ≤ (fw : Nat) → fi.toInt - 1 ≤ la.toInt → la.toInt ≤ en.toInt - 1 → (∀ j : Nat, la.toInt < (j : Int) → (j : Int) < en.toInt → own_z (ch j)) → G p l e ({ frames := 6, cells := 2, slots := 10, locals := 94 } : Room) s m #[.ref tx] below meth c Z.heap.size (fun v h' => (v = some .null ∧ Keep h0 h' []) ∨ (∃ (g : Addr) (ng fi la po : Int32) (pw : Int64), v = some (.ref g) ∧ Keep h0 h' [] ∧ h0.size ≤ g ∧ ObG Z h' g (.int ng) (.int fi) (.int la) (.int po) (.long pw) ∧ own_RR n ch fi la)) h 1 5 50 #[.val (.ref tx), .val (.ref P), .val (.int fi), .val (.int la), .unset, .unset, .unset] [] := by
    intro h P ng sa po en xx fi OL KK TT O_P hPP hf1 hf2 zs fw
    have O_tx := own_Tx TT
    obtain ⟨hmh, n1, n5, hch⟩ := own_Tn TT
    obtain ⟨f1, f2, f3, f4, f5, f6, f7⟩ := hPP
    induction fw with
    | zero =>
      intro la hfw hl1 hl2 hl
      refine g_iloadN cx d9_50 rfl ?_
      refine g_iloadN cx d9_51 rfl ?_
      refine g_icmp_lt cx d9_52 (fun hc52 => ?_) (fun q => absurd q (fun q => q (own_ltI (by omega))))
      refine g_aloadN cx d9_74 rfl rfl ?_
      refine g_virtual cx (y := (⟨"com/example/crisp_typedef/crisptypedef/NumberText$Parts", "point", "()I"⟩ : MethodName)) (z := (⟨"com/example/crisp_typedef/crisptypedef/NumberText$Parts", "point", "()I"⟩ : MethodName)) (a := P) d9_75 (hw _ (List.mem_of_getElem? (i := 121) rfl)) (hw _ (List.mem_of_getElem? (i := 122) rfl)) (hw _ (List.mem_of_getElem? (i := 88) rfl)) (hw _ (List.mem_of_getElem? (i := 125) rfl)) (hw _ (List.mem_of_getElem? (i := 124) rfl)) (hw _ (List.mem_of_getElem? (i := 123) rfl)) rfl (by decide) O_P.1 (bytes := prog_21_method_7_code) (maxL' := 1) (M := (rg1 l Z a0 hw  P ng sa po en xx _ O_P OL)) rfl (lenOf pd_5 rfl) (by decide) (W := 0) (Nat.le_of_eq rfl) (by decide) (k' := 1) (n' := 5) rfl rfl (by decide) (by decide) (argsL := []) (rest := []) rfl (fun v3 h2 q4 => ?_)
      obtain ⟨rfl, rfl⟩ := q4
      refine G.cast (st' := [(.int po)]) ?_ rfl
      refine g_istore cx d9_78 (Ls' := #[.val (.ref tx), .val (.ref P), .val (.int fi), .val (.int la), .val (.int po), .unset, .unset]) rfl ?_
      refine g_iloadN cx d9_80 rfl ?_
      refine g_iload cx d9_81 rfl ?_
      refine g_icmp_ge cx d9_83 (fun hc83 => ?_) (fun hc83 => ?_)
      · refine g_iload cx d9_96 rfl ?_
        refine g_iloadN cx d9_98 rfl ?_
        refine g_isub cx d9_99 ?_
        refine g_i2l cx d9_100 ?_
        refine g_lstore cx d9_101 (Ls' := #[.val (.ref tx), .val (.ref P), .val (.int fi), .val (.int la), .val (.int po), .val (.long (((po - la)).toInt64)), .second]) rfl ?_
        refine g_new cx d9_103 (hw _ (List.mem_of_getElem? (i := 126) rfl)) (hw _ (List.mem_of_getElem? (i := 127) rfl)) (hw _ (List.mem_of_getElem? (i := 128) rfl)) (k' := 2) (n' := 10) rfl rfl (by decide) (by decide) (fun h5 b6 gb7 E8 X9 D10 => ?_)
        have ne_P_b6 : P ≠ b6 := Nat.ne_of_lt (by rw [gb7]; exact O_P.lt)
        have g_b6 : Z.heap.size ≤ b6 := by rw [gb7]; exact OL.2.1
        have sz_b6 := (by rw [gb7]; exact KK.1 : h0.size ≤ b6)
        have O_P := O_P.ext E8
        have OL := OL.ext E8
        have _t := trivial
        have KK := KK.ext E8
        have O_b6 := ObG.new hw X9 D10
        refine g_dup cx d9_106 rfl ?_
        refine g_aloadN cx d9_107 rfl rfl ?_
        refine g_virtual cx (y := (⟨"com/example/crisp_typedef/crisptypedef/NumberText$Parts", "negative", "()Z"⟩ : MethodName)) (z := (⟨"com/example/crisp_typedef/crisptypedef/NumberText$Parts", "negative", "()Z"⟩ : MethodName)) (a := P) d9_108 (hw _ (List.mem_of_getElem? (i := 129) rfl)) (hw _ (List.mem_of_getElem? (i := 130) rfl)) (hw _ (List.mem_of_getElem? (i := 88) rfl)) (hw _ (List.mem_of_getElem? (i := 133) rfl)) (hw _ (List.mem_of_getElem? (i := 132) rfl)) (hw _ (List.mem_of_getElem? (i := 131) rfl)) rfl (by decide) O_P.1 (bytes := prog_21_method_5_code) (maxL' := 1) (M := (rg2 l Z a0 hw  P ng sa po en xx _ O_P OL)) rfl (lenOf pd_3 rfl) (by decide) (W := 2) (Nat.le_of_eq rfl) (by decide) (k' := 2) (n' := 10) rfl rfl (by decide) (by decide) (argsL := []) (rest := [(.ref b6), (.ref b6)]) rfl (fun v13 h12 q14 => ?_)
        obtain ⟨rfl, rfl⟩ := q14
        refine G.cast (st' := [(.int (nar .boolean ng)), (.ref b6), (.ref b6)]) ?_ rfl
        refine g_iloadN cx d9_111 rfl ?_
        refine g_iloadN cx d9_112 rfl ?_
        refine g_iload cx d9_113 rfl ?_
        refine g_lload cx d9_115 rfl ?_
        refine g_aloadN cx d9_117 rfl rfl ?_
        refine g_virtual cx (y := (⟨"com/example/crisp_typedef/crisptypedef/NumberText$Parts", "exponent", "()J"⟩ : MethodName)) (z := (⟨"com/example/crisp_typedef/crisptypedef/NumberText$Parts", "exponent", "()J"⟩ : MethodName)) (a := P) d9_118 (hw _ (List.mem_of_getElem? (i := 134) rfl)) (hw _ (List.mem_of_getElem? (i := 135) rfl)) (hw _ (List.mem_of_getElem? (i := 88) rfl)) (hw _ (List.mem_of_getElem? (i := 138) rfl)) (hw _ (List.mem_of_getElem? (i := 137) rfl)) (hw _ (List.mem_of_getElem? (i := 136) rfl)) rfl (by decide) O_P.1 (bytes := prog_21_method_9_code) (maxL' := 1) (M := (rg3 l Z a0 hw  P ng sa po en xx _ O_P OL)) rfl (lenOf pd_11 rfl) (by decide) (W := 8) (Nat.le_of_eq rfl) (by decide) (k' := 2) (n' := 10) rfl rfl (by decide) (by decide) (argsL := []) (rest := [(.long (((po - la)).toInt64)), (.int po), (.int la), (.int fi), (.int (nar .boolean ng)), (.ref b6), (.ref b6)]) rfl (fun v17 h16 q18 => ?_)
        obtain ⟨rfl, rfl⟩ := q18
        refine G.cast (st' := [(.long xx), (.long (((po - la)).toInt64)), (.int po), (.int la), (.int fi), (.int (nar .boolean ng)), (.ref b6), (.ref b6)]) ?_ rfl
        refine g_ladd cx d9_121 ?_
        refine g_special cx (y := (⟨"com/example/crisp_typedef/crisptypedef/NumberText$Significand", "<init>", "(ZIIIJ)V"⟩ : MethodName)) (a := b6) d9_122 rfl rfl (hw _ (List.mem_of_getElem? (i := 139) rfl)) (hw _ (List.mem_of_getElem? (i := 140) rfl)) (hw _ (List.mem_of_getElem? (i := 128) rfl)) (hw _ (List.mem_of_getElem? (i := 141) rfl)) (by decide) (bytes := prog_22_method_1_code) (maxL' := 7) (M := (rmGI l Z a0 hw b6 ((nar .boolean ng)) fi la po (((((po - la)).toInt64) + xx)) _ O_b6 g_b6 OL)) rfl (lenOf pd_8 rfl) (by decide) (W := 1) (Nat.le_of_eq rfl) (by decide) (k' := 2) (n' := 10) rfl rfl (by decide) (by decide) (argsL := [(.int (nar .boolean ng)), (.int fi), (.int la), (.int po), (.long ((((po - la)).toInt64) + xx))]) (rest := [(.ref b6)]) rfl (fun v21 h20 q22 => ?_)
        obtain ⟨rfl, K19, O_b6⟩ := q22
        have O_P := O_P.keep K19 (ninS ne_P_b6 nin0)
        have OL := OL.keep K19 (allS g_b6 all0)
        have _t := trivial
        have KK := KK.trans K19 (allS (P := fun z => z ∈ _ ∨ _ ≤ z) (Or.inr sz_b6) all0)
        refine G.cast (st' := [(.ref b6)]) ?_ rfl
        refine g_retA cx d9_125 (t := (.object "com/example/crisp_typedef/crisptypedef/NumberText$Significand")) rfl rfl rfl rfl (by decide) (by decide) ?_
        exact Or.inr ⟨b6, _, fi, la, _, _, rfl, KK, sz_b6, O_b6, sa, en, ⟨f1, f2, f3, f4, f5, f6, f7⟩, (fun q j a b => by
          by_cases z : (j : Int) < fi.toInt
          · exact zs j a z
          · have := Int32.lt_iff_toInt_lt.mp hc52; exact hl j (by omega) b), (fun q => absurd hc52 q)⟩
      · refine g_iload cx d9_86 rfl ?_
        refine g_iloadN cx d9_88 rfl ?_
        refine g_isub cx d9_89 ?_
        refine g_iconst cx d9_90 (v := (1 : Int32)) rfl ?_
        refine g_isub cx d9_91 ?_
        refine g_i2l cx d9_92 ?_
        refine g_goto cx d9_93 ?_
        refine g_lstore cx d9_101 (Ls' := #[.val (.ref tx), .val (.ref P), .val (.int fi), .val (.int la), .val (.int po), .val (.long ((((po - la) - (1 : Int32))).toInt64)), .second]) rfl ?_
        refine g_new cx d9_103 (hw _ (List.mem_of_getElem? (i := 126) rfl)) (hw _ (List.mem_of_getElem? (i := 127) rfl)) (hw _ (List.mem_of_getElem? (i := 128) rfl)) (k' := 2) (n' := 10) rfl rfl (by decide) (by decide) (fun h23 b24 gb25 E26 X27 D28 => ?_)
        have ne_P_b24 : P ≠ b24 := Nat.ne_of_lt (by rw [gb25]; exact O_P.lt)
        have g_b24 : Z.heap.size ≤ b24 := by rw [gb25]; exact OL.2.1
        have sz_b24 := (by rw [gb25]; exact KK.1 : h0.size ≤ b24)
        have O_P := O_P.ext E26
        have OL := OL.ext E26
        have _t := trivial
        have KK := KK.ext E26
        have O_b24 := ObG.new hw X27 D28
        refine g_dup cx d9_106 rfl ?_
        refine g_aloadN cx d9_107 rfl rfl ?_
        refine g_virtual cx (y := (⟨"com/example/crisp_typedef/crisptypedef/NumberText$Parts", "negative", "()Z"⟩ : MethodName)) (z := (⟨"com/example/crisp_typedef/crisptypedef/NumberText$Parts", "negative", "()Z"⟩ : MethodName)) (a := P) d9_108 (hw _ (List.mem_of_getElem? (i := 129) rfl)) (hw _ (List.mem_of_getElem? (i := 130) rfl)) (hw _ (List.mem_of_getElem? (i := 88) rfl)) (hw _ (List.mem_of_getElem? (i := 133) rfl)) (hw _ (List.mem_of_getElem? (i := 132) rfl)) (hw _ (List.mem_of_getElem? (i := 131) rfl)) rfl (by decide) O_P.1 (bytes := prog_21_method_5_code) (maxL' := 1) (M := (rg2 l Z a0 hw  P ng sa po en xx _ O_P OL)) rfl (lenOf pd_3 rfl) (by decide) (W := 2) (Nat.le_of_eq rfl) (by decide) (k' := 2) (n' := 10) rfl rfl (by decide) (by decide) (argsL := []) (rest := [(.ref b24), (.ref b24)]) rfl (fun v31 h30 q32 => ?_)
        obtain ⟨rfl, rfl⟩ := q32
        refine G.cast (st' := [(.int (nar .boolean ng)), (.ref b24), (.ref b24)]) ?_ rfl
        refine g_iloadN cx d9_111 rfl ?_
        refine g_iloadN cx d9_112 rfl ?_
        refine g_iload cx d9_113 rfl ?_
        refine g_lload cx d9_115 rfl ?_
        refine g_aloadN cx d9_117 rfl rfl ?_
        refine g_virtual cx (y := (⟨"com/example/crisp_typedef/crisptypedef/NumberText$Parts", "exponent", "()J"⟩ : MethodName)) (z := (⟨"com/example/crisp_typedef/crisptypedef/NumberText$Parts", "exponent", "()J"⟩ : MethodName)) (a := P) d9_118 (hw _ (List.mem_of_getElem? (i := 134) rfl)) (hw _ (List.mem_of_getElem? (i := 135) rfl)) (hw _ (List.mem_of_getElem? (i := 88) rfl)) (hw _ (List.mem_of_getElem? (i := 138) rfl)) (hw _ (List.mem_of_getElem? (i := 137) rfl)) (hw _ (List.mem_of_getElem? (i := 136) rfl)) rfl (by decide) O_P.1 (bytes := prog_21_method_9_code) (maxL' := 1) (M := (rg3 l Z a0 hw  P ng sa po en xx _ O_P OL)) rfl (lenOf pd_11 rfl) (by decide) (W := 8) (Nat.le_of_eq rfl) (by decide) (k' := 2) (n' := 10) rfl rfl (by decide) (by decide) (argsL := []) (rest := [(.long ((((po - la) - (1 : Int32))).toInt64)), (.int po), (.int la), (.int fi), (.int (nar .boolean ng)), (.ref b24), (.ref b24)]) rfl (fun v35 h34 q36 => ?_)
        obtain ⟨rfl, rfl⟩ := q36
        refine G.cast (st' := [(.long xx), (.long ((((po - la) - (1 : Int32))).toInt64)), (.int po), (.int la), (.int fi), (.int (nar .boolean ng)), (.ref b24), (.ref b24)]) ?_ rfl
        refine g_ladd cx d9_121 ?_
        refine g_special cx (y := (⟨"com/example/crisp_typedef/crisptypedef/NumberText$Significand", "<init>", "(ZIIIJ)V"⟩ : MethodName)) (a := b24) d9_122 rfl rfl (hw _ (List.mem_of_getElem? (i := 139) rfl)) (hw _ (List.mem_of_getElem? (i := 140) rfl)) (hw _ (List.mem_of_getElem? (i := 128) rfl)) (hw _ (List.mem_of_getElem? (i := 141) rfl)) (by decide) (bytes := prog_22_method_1_code) (maxL' := 7) (M := (rmGI l Z a0 hw b24 ((nar .boolean ng)) fi la po ((((((po - la) - (1 : Int32))).toInt64) + xx)) _ O_b24 g_b24 OL)) rfl (lenOf pd_8 rfl) (by decide) (W := 1) (Nat.le_of_eq rfl) (by decide) (k' := 2) (n' := 10) rfl rfl (by decide) (by decide) (argsL := [(.int (nar .boolean ng)), (.int fi), (.int la), (.int po), (.long (((((po - la) - (1 : Int32))).toInt64) + xx))]) (rest := [(.ref b24)]) rfl (fun v39 h38 q40 => ?_)
        obtain ⟨rfl, K37, O_b24⟩ := q40
        have O_P := O_P.keep K37 (ninS ne_P_b24 nin0)
        have OL := OL.keep K37 (allS g_b24 all0)
        have _t := trivial
        have KK := KK.trans K37 (allS (P := fun z => z ∈ _ ∨ _ ≤ z) (Or.inr sz_b24) all0)
        refine G.cast (st' := [(.ref b24)]) ?_ rfl
        refine g_retA cx d9_125 (t := (.object "com/example/crisp_typedef/crisptypedef/NumberText$Significand")) rfl rfl rfl rfl (by decide) (by decide) ?_
        exact Or.inr ⟨b24, _, fi, la, _, _, rfl, KK, sz_b24, O_b24, sa, en, ⟨f1, f2, f3, f4, f5, f6, f7⟩, (fun q j a b => by
          by_cases z : (j : Int) < fi.toInt
          · exact zs j a z
          · have := Int32.lt_iff_toInt_lt.mp hc52; exact hl j (by omega) b), (fun q => absurd hc52 q)⟩
    | succ fw ihv =>
      intro la hfw hl1 hl2 hl
      refine g_iloadN cx d9_50 rfl ?_
      refine g_iloadN cx d9_51 rfl ?_
      refine g_icmp_lt cx d9_52 (fun hc52 => ?_) (fun hc52 => ?_)
      · refine g_aloadN cx d9_74 rfl rfl ?_
        refine g_virtual cx (y := (⟨"com/example/crisp_typedef/crisptypedef/NumberText$Parts", "point", "()I"⟩ : MethodName)) (z := (⟨"com/example/crisp_typedef/crisptypedef/NumberText$Parts", "point", "()I"⟩ : MethodName)) (a := P) d9_75 (hw _ (List.mem_of_getElem? (i := 121) rfl)) (hw _ (List.mem_of_getElem? (i := 122) rfl)) (hw _ (List.mem_of_getElem? (i := 88) rfl)) (hw _ (List.mem_of_getElem? (i := 125) rfl)) (hw _ (List.mem_of_getElem? (i := 124) rfl)) (hw _ (List.mem_of_getElem? (i := 123) rfl)) rfl (by decide) O_P.1 (bytes := prog_21_method_7_code) (maxL' := 1) (M := (rg1 l Z a0 hw  P ng sa po en xx _ O_P OL)) rfl (lenOf pd_5 rfl) (by decide) (W := 0) (Nat.le_of_eq rfl) (by decide) (k' := 1) (n' := 5) rfl rfl (by decide) (by decide) (argsL := []) (rest := []) rfl (fun v3 h2 q4 => ?_)
        obtain ⟨rfl, rfl⟩ := q4
        refine G.cast (st' := [(.int po)]) ?_ rfl
        refine g_istore cx d9_78 (Ls' := #[.val (.ref tx), .val (.ref P), .val (.int fi), .val (.int la), .val (.int po), .unset, .unset]) rfl ?_
        refine g_iloadN cx d9_80 rfl ?_
        refine g_iload cx d9_81 rfl ?_
        refine g_icmp_ge cx d9_83 (fun hc83 => ?_) (fun hc83 => ?_)
        · refine g_iload cx d9_96 rfl ?_
          refine g_iloadN cx d9_98 rfl ?_
          refine g_isub cx d9_99 ?_
          refine g_i2l cx d9_100 ?_
          refine g_lstore cx d9_101 (Ls' := #[.val (.ref tx), .val (.ref P), .val (.int fi), .val (.int la), .val (.int po), .val (.long (((po - la)).toInt64)), .second]) rfl ?_
          refine g_new cx d9_103 (hw _ (List.mem_of_getElem? (i := 126) rfl)) (hw _ (List.mem_of_getElem? (i := 127) rfl)) (hw _ (List.mem_of_getElem? (i := 128) rfl)) (k' := 2) (n' := 10) rfl rfl (by decide) (by decide) (fun h5 b6 gb7 E8 X9 D10 => ?_)
          have ne_P_b6 : P ≠ b6 := Nat.ne_of_lt (by rw [gb7]; exact O_P.lt)
          have g_b6 : Z.heap.size ≤ b6 := by rw [gb7]; exact OL.2.1
          have sz_b6 := (by rw [gb7]; exact KK.1 : h0.size ≤ b6)
          have O_P := O_P.ext E8
          have OL := OL.ext E8
          have _t := trivial
          have KK := KK.ext E8
          have O_b6 := ObG.new hw X9 D10
          refine g_dup cx d9_106 rfl ?_
          refine g_aloadN cx d9_107 rfl rfl ?_
          refine g_virtual cx (y := (⟨"com/example/crisp_typedef/crisptypedef/NumberText$Parts", "negative", "()Z"⟩ : MethodName)) (z := (⟨"com/example/crisp_typedef/crisptypedef/NumberText$Parts", "negative", "()Z"⟩ : MethodName)) (a := P) d9_108 (hw _ (List.mem_of_getElem? (i := 129) rfl)) (hw _ (List.mem_of_getElem? (i := 130) rfl)) (hw _ (List.mem_of_getElem? (i := 88) rfl)) (hw _ (List.mem_of_getElem? (i := 133) rfl)) (hw _ (List.mem_of_getElem? (i := 132) rfl)) (hw _ (List.mem_of_getElem? (i := 131) rfl)) rfl (by decide) O_P.1 (bytes := prog_21_method_5_code) (maxL' := 1) (M := (rg2 l Z a0 hw  P ng sa po en xx _ O_P OL)) rfl (lenOf pd_3 rfl) (by decide) (W := 2) (Nat.le_of_eq rfl) (by decide) (k' := 2) (n' := 10) rfl rfl (by decide) (by decide) (argsL := []) (rest := [(.ref b6), (.ref b6)]) rfl (fun v13 h12 q14 => ?_)
          obtain ⟨rfl, rfl⟩ := q14
          refine G.cast (st' := [(.int (nar .boolean ng)), (.ref b6), (.ref b6)]) ?_ rfl
          refine g_iloadN cx d9_111 rfl ?_
          refine g_iloadN cx d9_112 rfl ?_
          refine g_iload cx d9_113 rfl ?_
          refine g_lload cx d9_115 rfl ?_
          refine g_aloadN cx d9_117 rfl rfl ?_
          refine g_virtual cx (y := (⟨"com/example/crisp_typedef/crisptypedef/NumberText$Parts", "exponent", "()J"⟩ : MethodName)) (z := (⟨"com/example/crisp_typedef/crisptypedef/NumberText$Parts", "exponent", "()J"⟩ : MethodName)) (a := P) d9_118 (hw _ (List.mem_of_getElem? (i := 134) rfl)) (hw _ (List.mem_of_getElem? (i := 135) rfl)) (hw _ (List.mem_of_getElem? (i := 88) rfl)) (hw _ (List.mem_of_getElem? (i := 138) rfl)) (hw _ (List.mem_of_getElem? (i := 137) rfl)) (hw _ (List.mem_of_getElem? (i := 136) rfl)) rfl (by decide) O_P.1 (bytes := prog_21_method_9_code) (maxL' := 1) (M := (rg3 l Z a0 hw  P ng sa po en xx _ O_P OL)) rfl (lenOf pd_11 rfl) (by decide) (W := 8) (Nat.le_of_eq rfl) (by decide) (k' := 2) (n' := 10) rfl rfl (by decide) (by decide) (argsL := []) (rest := [(.long (((po - la)).toInt64)), (.int po), (.int la), (.int fi), (.int (nar .boolean ng)), (.ref b6), (.ref b6)]) rfl (fun v17 h16 q18 => ?_)
          obtain ⟨rfl, rfl⟩ := q18
          refine G.cast (st' := [(.long xx), (.long (((po - la)).toInt64)), (.int po), (.int la), (.int fi), (.int (nar .boolean ng)), (.ref b6), (.ref b6)]) ?_ rfl
          refine g_ladd cx d9_121 ?_
          refine g_special cx (y := (⟨"com/example/crisp_typedef/crisptypedef/NumberText$Significand", "<init>", "(ZIIIJ)V"⟩ : MethodName)) (a := b6) d9_122 rfl rfl (hw _ (List.mem_of_getElem? (i := 139) rfl)) (hw _ (List.mem_of_getElem? (i := 140) rfl)) (hw _ (List.mem_of_getElem? (i := 128) rfl)) (hw _ (List.mem_of_getElem? (i := 141) rfl)) (by decide) (bytes := prog_22_method_1_code) (maxL' := 7) (M := (rmGI l Z a0 hw b6 ((nar .boolean ng)) fi la po (((((po - la)).toInt64) + xx)) _ O_b6 g_b6 OL)) rfl (lenOf pd_8 rfl) (by decide) (W := 1) (Nat.le_of_eq rfl) (by decide) (k' := 2) (n' := 10) rfl rfl (by decide) (by decide) (argsL := [(.int (nar .boolean ng)), (.int fi), (.int la), (.int po), (.long ((((po - la)).toInt64) + xx))]) (rest := [(.ref b6)]) rfl (fun v21 h20 q22 => ?_)
          obtain ⟨rfl, K19, O_b6⟩ := q22
          have O_P := O_P.keep K19 (ninS ne_P_b6 nin0)
          have OL := OL.keep K19 (allS g_b6 all0)
          have _t := trivial
          have KK := KK.trans K19 (allS (P := fun z => z ∈ _ ∨ _ ≤ z) (Or.inr sz_b6) all0)
          refine G.cast (st' := [(.ref b6)]) ?_ rfl
          refine g_retA cx d9_125 (t := (.object "com/example/crisp_typedef/crisptypedef/NumberText$Significand")) rfl rfl rfl rfl (by decide) (by decide) ?_
          exact Or.inr ⟨b6, _, fi, la, _, _, rfl, KK, sz_b6, O_b6, sa, en, ⟨f1, f2, f3, f4, f5, f6, f7⟩, (fun q j a b => by
            by_cases z : (j : Int) < fi.toInt
            · exact zs j a z
            · have := Int32.lt_iff_toInt_lt.mp hc52; exact hl j (by omega) b), (fun q => absurd hc52 q)⟩
        · refine g_iload cx d9_86 rfl ?_
          refine g_iloadN cx d9_88 rfl ?_
          refine g_isub cx d9_89 ?_
          refine g_iconst cx d9_90 (v := (1 : Int32)) rfl ?_
          refine g_isub cx d9_91 ?_
          refine g_i2l cx d9_92 ?_
          refine g_goto cx d9_93 ?_
          refine g_lstore cx d9_101 (Ls' := #[.val (.ref tx), .val (.ref P), .val (.int fi), .val (.int la), .val (.int po), .val (.long ((((po - la) - (1 : Int32))).toInt64)), .second]) rfl ?_
          refine g_new cx d9_103 (hw _ (List.mem_of_getElem? (i := 126) rfl)) (hw _ (List.mem_of_getElem? (i := 127) rfl)) (hw _ (List.mem_of_getElem? (i := 128) rfl)) (k' := 2) (n' := 10) rfl rfl (by decide) (by decide) (fun h23 b24 gb25 E26 X27 D28 => ?_)
          have ne_P_b24 : P ≠ b24 := Nat.ne_of_lt (by rw [gb25]; exact O_P.lt)
          have g_b24 : Z.heap.size ≤ b24 := by rw [gb25]; exact OL.2.1
          have sz_b24 := (by rw [gb25]; exact KK.1 : h0.size ≤ b24)
          have O_P := O_P.ext E26
          have OL := OL.ext E26
          have _t := trivial
          have KK := KK.ext E26
          have O_b24 := ObG.new hw X27 D28
          refine g_dup cx d9_106 rfl ?_
          refine g_aloadN cx d9_107 rfl rfl ?_
          refine g_virtual cx (y := (⟨"com/example/crisp_typedef/crisptypedef/NumberText$Parts", "negative", "()Z"⟩ : MethodName)) (z := (⟨"com/example/crisp_typedef/crisptypedef/NumberText$Parts", "negative", "()Z"⟩ : MethodName)) (a := P) d9_108 (hw _ (List.mem_of_getElem? (i := 129) rfl)) (hw _ (List.mem_of_getElem? (i := 130) rfl)) (hw _ (List.mem_of_getElem? (i := 88) rfl)) (hw _ (List.mem_of_getElem? (i := 133) rfl)) (hw _ (List.mem_of_getElem? (i := 132) rfl)) (hw _ (List.mem_of_getElem? (i := 131) rfl)) rfl (by decide) O_P.1 (bytes := prog_21_method_5_code) (maxL' := 1) (M := (rg2 l Z a0 hw  P ng sa po en xx _ O_P OL)) rfl (lenOf pd_3 rfl) (by decide) (W := 2) (Nat.le_of_eq rfl) (by decide) (k' := 2) (n' := 10) rfl rfl (by decide) (by decide) (argsL := []) (rest := [(.ref b24), (.ref b24)]) rfl (fun v31 h30 q32 => ?_)
          obtain ⟨rfl, rfl⟩ := q32
          refine G.cast (st' := [(.int (nar .boolean ng)), (.ref b24), (.ref b24)]) ?_ rfl
          refine g_iloadN cx d9_111 rfl ?_
          refine g_iloadN cx d9_112 rfl ?_
          refine g_iload cx d9_113 rfl ?_
          refine g_lload cx d9_115 rfl ?_
          refine g_aloadN cx d9_117 rfl rfl ?_
          refine g_virtual cx (y := (⟨"com/example/crisp_typedef/crisptypedef/NumberText$Parts", "exponent", "()J"⟩ : MethodName)) (z := (⟨"com/example/crisp_typedef/crisptypedef/NumberText$Parts", "exponent", "()J"⟩ : MethodName)) (a := P) d9_118 (hw _ (List.mem_of_getElem? (i := 134) rfl)) (hw _ (List.mem_of_getElem? (i := 135) rfl)) (hw _ (List.mem_of_getElem? (i := 88) rfl)) (hw _ (List.mem_of_getElem? (i := 138) rfl)) (hw _ (List.mem_of_getElem? (i := 137) rfl)) (hw _ (List.mem_of_getElem? (i := 136) rfl)) rfl (by decide) O_P.1 (bytes := prog_21_method_9_code) (maxL' := 1) (M := (rg3 l Z a0 hw  P ng sa po en xx _ O_P OL)) rfl (lenOf pd_11 rfl) (by decide) (W := 8) (Nat.le_of_eq rfl) (by decide) (k' := 2) (n' := 10) rfl rfl (by decide) (by decide) (argsL := []) (rest := [(.long ((((po - la) - (1 : Int32))).toInt64)), (.int po), (.int la), (.int fi), (.int (nar .boolean ng)), (.ref b24), (.ref b24)]) rfl (fun v35 h34 q36 => ?_)
          obtain ⟨rfl, rfl⟩ := q36
          refine G.cast (st' := [(.long xx), (.long ((((po - la) - (1 : Int32))).toInt64)), (.int po), (.int la), (.int fi), (.int (nar .boolean ng)), (.ref b24), (.ref b24)]) ?_ rfl
          refine g_ladd cx d9_121 ?_
          refine g_special cx (y := (⟨"com/example/crisp_typedef/crisptypedef/NumberText$Significand", "<init>", "(ZIIIJ)V"⟩ : MethodName)) (a := b24) d9_122 rfl rfl (hw _ (List.mem_of_getElem? (i := 139) rfl)) (hw _ (List.mem_of_getElem? (i := 140) rfl)) (hw _ (List.mem_of_getElem? (i := 128) rfl)) (hw _ (List.mem_of_getElem? (i := 141) rfl)) (by decide) (bytes := prog_22_method_1_code) (maxL' := 7) (M := (rmGI l Z a0 hw b24 ((nar .boolean ng)) fi la po ((((((po - la) - (1 : Int32))).toInt64) + xx)) _ O_b24 g_b24 OL)) rfl (lenOf pd_8 rfl) (by decide) (W := 1) (Nat.le_of_eq rfl) (by decide) (k' := 2) (n' := 10) rfl rfl (by decide) (by decide) (argsL := [(.int (nar .boolean ng)), (.int fi), (.int la), (.int po), (.long (((((po - la) - (1 : Int32))).toInt64) + xx))]) (rest := [(.ref b24)]) rfl (fun v39 h38 q40 => ?_)
          obtain ⟨rfl, K37, O_b24⟩ := q40
          have O_P := O_P.keep K37 (ninS ne_P_b24 nin0)
          have OL := OL.keep K37 (allS g_b24 all0)
          have _t := trivial
          have KK := KK.trans K37 (allS (P := fun z => z ∈ _ ∨ _ ≤ z) (Or.inr sz_b24) all0)
          refine G.cast (st' := [(.ref b24)]) ?_ rfl
          refine g_retA cx d9_125 (t := (.object "com/example/crisp_typedef/crisptypedef/NumberText$Significand")) rfl rfl rfl rfl (by decide) (by decide) ?_
          exact Or.inr ⟨b24, _, fi, la, _, _, rfl, KK, sz_b24, O_b24, sa, en, ⟨f1, f2, f3, f4, f5, f6, f7⟩, (fun q j a b => by
            by_cases z : (j : Int) < fi.toInt
            · exact zs j a z
            · have := Int32.lt_iff_toInt_lt.mp hc52; exact hl j (by omega) b), (fun q => absurd hc52 q)⟩
      · refine g_aloadN cx d9_55 rfl rfl ?_
        refine g_iloadN cx d9_56 rfl ?_
        refine g_interface cx (x := (⟨"java/lang/CharSequence", "charAt", "(I)C"⟩ : MethodName)) (y := (⟨"java/lang/String", "charAt", "(I)C"⟩ : MethodName)) (a := tx) d9_57 (hw _ (List.mem_of_getElem? (i := 58) rfl)) (hw _ (List.mem_of_getElem? (i := 59) rfl)) (hw _ (List.mem_of_getElem? (i := 60) rfl)) (hw _ (List.mem_of_getElem? (i := 10) rfl)) (hw _ (List.mem_of_getElem? (i := 65) rfl)) (hw _ (List.mem_of_getElem? (i := 61) rfl)) (hw _ (List.mem_of_getElem? (i := 62) rfl)) (hw _ (List.mem_of_getElem? (i := 63) rfl)) (hw _ (List.mem_of_getElem? (i := 64) rfl)) (hw _ (List.mem_of_getElem? (i := 51) rfl)) (by decide) O_tx.1 (bytes := jdk_42_method_56_code) (maxL' := 2) (M := (rmca l Z a0 hw cs SCS hcs fv hfv SFV mm tx n ch _ TT OL la (own_lt0 (by have i_hc52 : ¬ (la).toInt < (fi).toInt := fun z => hc52 (Int32.lt_iff_toInt_lt.mpr z); omega)) (own_ltI (by have i_hc52 : ¬ (la).toInt < (fi).toInt := fun z => hc52 (Int32.lt_iff_toInt_lt.mpr z); omega)))) rfl (lenOf pd_6 rfl) (by decide) (W := 0) (Nat.le_of_eq rfl) (by decide) (k' := 1) (n' := 5) rfl rfl (by decide) (by decide) (argsL := [(.int la)]) (rest := []) rfl (fun v42 h41 q43 => ?_)
        obtain ⟨rfl, rfl⟩ := q43
        refine G.cast (st' := [(.int (ch la.toNatClampNeg))]) ?_ rfl
        refine g_static cx (y := (⟨"com/example/crisp_typedef/crisptypedef/NumberText", "isZeroOrPoint", "(C)Z"⟩ : MethodName)) d9_62 (hw _ (List.mem_of_getElem? (i := 118) rfl)) (hw _ (List.mem_of_getElem? (i := 119) rfl)) (hw _ (List.mem_of_getElem? (i := 39) rfl)) (hw _ (List.mem_of_getElem? (i := 120) rfl)) (by decide) (bytes := prog_20_method_9_code) (maxL' := 1) (M := (rmzp l Z a0 hw _ _)) rfl (lenOf pd_12 rfl) (by decide) (W := 0) (Nat.le_of_eq rfl) (by decide) (k' := 1) (n' := 5) rfl rfl (by decide) (by decide) (argsL := [(.int (ch la.toNatClampNeg))]) (rest := []) rfl (fun v45 h44 q46 => ?_)
        obtain ⟨rfl, rfl⟩ := q46
        refine G.cast (st' := [(.int (own_zp (ch la.toNatClampNeg)))]) ?_ rfl
        refine g_if_eq cx d9_65 (fun hc65 => ?_) (fun hc65 => ?_)
        · refine g_aloadN cx d9_74 rfl rfl ?_
          refine g_virtual cx (y := (⟨"com/example/crisp_typedef/crisptypedef/NumberText$Parts", "point", "()I"⟩ : MethodName)) (z := (⟨"com/example/crisp_typedef/crisptypedef/NumberText$Parts", "point", "()I"⟩ : MethodName)) (a := P) d9_75 (hw _ (List.mem_of_getElem? (i := 121) rfl)) (hw _ (List.mem_of_getElem? (i := 122) rfl)) (hw _ (List.mem_of_getElem? (i := 88) rfl)) (hw _ (List.mem_of_getElem? (i := 125) rfl)) (hw _ (List.mem_of_getElem? (i := 124) rfl)) (hw _ (List.mem_of_getElem? (i := 123) rfl)) rfl (by decide) O_P.1 (bytes := prog_21_method_7_code) (maxL' := 1) (M := (rg1 l Z a0 hw  P ng sa po en xx _ O_P OL)) rfl (lenOf pd_5 rfl) (by decide) (W := 0) (Nat.le_of_eq rfl) (by decide) (k' := 1) (n' := 5) rfl rfl (by decide) (by decide) (argsL := []) (rest := []) rfl (fun v49 h48 q50 => ?_)
          obtain ⟨rfl, rfl⟩ := q50
          refine G.cast (st' := [(.int po)]) ?_ rfl
          refine g_istore cx d9_78 (Ls' := #[.val (.ref tx), .val (.ref P), .val (.int fi), .val (.int la), .val (.int po), .unset, .unset]) rfl ?_
          refine g_iloadN cx d9_80 rfl ?_
          refine g_iload cx d9_81 rfl ?_
          refine g_icmp_ge cx d9_83 (fun hc83 => ?_) (fun hc83 => ?_)
          · refine g_iload cx d9_96 rfl ?_
            refine g_iloadN cx d9_98 rfl ?_
            refine g_isub cx d9_99 ?_
            refine g_i2l cx d9_100 ?_
            refine g_lstore cx d9_101 (Ls' := #[.val (.ref tx), .val (.ref P), .val (.int fi), .val (.int la), .val (.int po), .val (.long (((po - la)).toInt64)), .second]) rfl ?_
            refine g_new cx d9_103 (hw _ (List.mem_of_getElem? (i := 126) rfl)) (hw _ (List.mem_of_getElem? (i := 127) rfl)) (hw _ (List.mem_of_getElem? (i := 128) rfl)) (k' := 2) (n' := 10) rfl rfl (by decide) (by decide) (fun h51 b52 gb53 E54 X55 D56 => ?_)
            have ne_P_b52 : P ≠ b52 := Nat.ne_of_lt (by rw [gb53]; exact O_P.lt)
            have g_b52 : Z.heap.size ≤ b52 := by rw [gb53]; exact OL.2.1
            have sz_b52 := (by rw [gb53]; exact KK.1 : h0.size ≤ b52)
            have O_P := O_P.ext E54
            have OL := OL.ext E54
            have _t := trivial
            have KK := KK.ext E54
            have O_b52 := ObG.new hw X55 D56
            refine g_dup cx d9_106 rfl ?_
            refine g_aloadN cx d9_107 rfl rfl ?_
            refine g_virtual cx (y := (⟨"com/example/crisp_typedef/crisptypedef/NumberText$Parts", "negative", "()Z"⟩ : MethodName)) (z := (⟨"com/example/crisp_typedef/crisptypedef/NumberText$Parts", "negative", "()Z"⟩ : MethodName)) (a := P) d9_108 (hw _ (List.mem_of_getElem? (i := 129) rfl)) (hw _ (List.mem_of_getElem? (i := 130) rfl)) (hw _ (List.mem_of_getElem? (i := 88) rfl)) (hw _ (List.mem_of_getElem? (i := 133) rfl)) (hw _ (List.mem_of_getElem? (i := 132) rfl)) (hw _ (List.mem_of_getElem? (i := 131) rfl)) rfl (by decide) O_P.1 (bytes := prog_21_method_5_code) (maxL' := 1) (M := (rg2 l Z a0 hw  P ng sa po en xx _ O_P OL)) rfl (lenOf pd_3 rfl) (by decide) (W := 2) (Nat.le_of_eq rfl) (by decide) (k' := 2) (n' := 10) rfl rfl (by decide) (by decide) (argsL := []) (rest := [(.ref b52), (.ref b52)]) rfl (fun v59 h58 q60 => ?_)
            obtain ⟨rfl, rfl⟩ := q60
            refine G.cast (st' := [(.int (nar .boolean ng)), (.ref b52), (.ref b52)]) ?_ rfl
            refine g_iloadN cx d9_111 rfl ?_
            refine g_iloadN cx d9_112 rfl ?_
            refine g_iload cx d9_113 rfl ?_
            refine g_lload cx d9_115 rfl ?_
            refine g_aloadN cx d9_117 rfl rfl ?_
            refine g_virtual cx (y := (⟨"com/example/crisp_typedef/crisptypedef/NumberText$Parts", "exponent", "()J"⟩ : MethodName)) (z := (⟨"com/example/crisp_typedef/crisptypedef/NumberText$Parts", "exponent", "()J"⟩ : MethodName)) (a := P) d9_118 (hw _ (List.mem_of_getElem? (i := 134) rfl)) (hw _ (List.mem_of_getElem? (i := 135) rfl)) (hw _ (List.mem_of_getElem? (i := 88) rfl)) (hw _ (List.mem_of_getElem? (i := 138) rfl)) (hw _ (List.mem_of_getElem? (i := 137) rfl)) (hw _ (List.mem_of_getElem? (i := 136) rfl)) rfl (by decide) O_P.1 (bytes := prog_21_method_9_code) (maxL' := 1) (M := (rg3 l Z a0 hw  P ng sa po en xx _ O_P OL)) rfl (lenOf pd_11 rfl) (by decide) (W := 8) (Nat.le_of_eq rfl) (by decide) (k' := 2) (n' := 10) rfl rfl (by decide) (by decide) (argsL := []) (rest := [(.long (((po - la)).toInt64)), (.int po), (.int la), (.int fi), (.int (nar .boolean ng)), (.ref b52), (.ref b52)]) rfl (fun v63 h62 q64 => ?_)
            obtain ⟨rfl, rfl⟩ := q64
            refine G.cast (st' := [(.long xx), (.long (((po - la)).toInt64)), (.int po), (.int la), (.int fi), (.int (nar .boolean ng)), (.ref b52), (.ref b52)]) ?_ rfl
            refine g_ladd cx d9_121 ?_
            refine g_special cx (y := (⟨"com/example/crisp_typedef/crisptypedef/NumberText$Significand", "<init>", "(ZIIIJ)V"⟩ : MethodName)) (a := b52) d9_122 rfl rfl (hw _ (List.mem_of_getElem? (i := 139) rfl)) (hw _ (List.mem_of_getElem? (i := 140) rfl)) (hw _ (List.mem_of_getElem? (i := 128) rfl)) (hw _ (List.mem_of_getElem? (i := 141) rfl)) (by decide) (bytes := prog_22_method_1_code) (maxL' := 7) (M := (rmGI l Z a0 hw b52 ((nar .boolean ng)) fi la po (((((po - la)).toInt64) + xx)) _ O_b52 g_b52 OL)) rfl (lenOf pd_8 rfl) (by decide) (W := 1) (Nat.le_of_eq rfl) (by decide) (k' := 2) (n' := 10) rfl rfl (by decide) (by decide) (argsL := [(.int (nar .boolean ng)), (.int fi), (.int la), (.int po), (.long ((((po - la)).toInt64) + xx))]) (rest := [(.ref b52)]) rfl (fun v67 h66 q68 => ?_)
            obtain ⟨rfl, K65, O_b52⟩ := q68
            have O_P := O_P.keep K65 (ninS ne_P_b52 nin0)
            have OL := OL.keep K65 (allS g_b52 all0)
            have _t := trivial
            have KK := KK.trans K65 (allS (P := fun z => z ∈ _ ∨ _ ≤ z) (Or.inr sz_b52) all0)
            refine G.cast (st' := [(.ref b52)]) ?_ rfl
            refine g_retA cx d9_125 (t := (.object "com/example/crisp_typedef/crisptypedef/NumberText$Significand")) rfl rfl rfl rfl (by decide) (by decide) ?_
            have hq : ¬ la.toInt < fi.toInt := fun z => hc52 (Int32.lt_iff_toInt_lt.mpr z)
            have hla0 : 0 ≤ la.toInt := by omega
            exact Or.inr ⟨b52, _, fi, la, _, _, rfl, KK, sz_b52, O_b52, sa, en, ⟨f1, f2, f3, f4, f5, f6, f7⟩, (fun q => absurd q hc52), (fun _ => ⟨la.toNatClampNeg, by rw [own_nat hla0]; omega, by rw [own_nat hla0]; omega, own_zp0 hc65⟩)⟩
          · refine g_iload cx d9_86 rfl ?_
            refine g_iloadN cx d9_88 rfl ?_
            refine g_isub cx d9_89 ?_
            refine g_iconst cx d9_90 (v := (1 : Int32)) rfl ?_
            refine g_isub cx d9_91 ?_
            refine g_i2l cx d9_92 ?_
            refine g_goto cx d9_93 ?_
            refine g_lstore cx d9_101 (Ls' := #[.val (.ref tx), .val (.ref P), .val (.int fi), .val (.int la), .val (.int po), .val (.long ((((po - la) - (1 : Int32))).toInt64)), .second]) rfl ?_
            refine g_new cx d9_103 (hw _ (List.mem_of_getElem? (i := 126) rfl)) (hw _ (List.mem_of_getElem? (i := 127) rfl)) (hw _ (List.mem_of_getElem? (i := 128) rfl)) (k' := 2) (n' := 10) rfl rfl (by decide) (by decide) (fun h69 b70 gb71 E72 X73 D74 => ?_)
            have ne_P_b70 : P ≠ b70 := Nat.ne_of_lt (by rw [gb71]; exact O_P.lt)
            have g_b70 : Z.heap.size ≤ b70 := by rw [gb71]; exact OL.2.1
            have sz_b70 := (by rw [gb71]; exact KK.1 : h0.size ≤ b70)
            have O_P := O_P.ext E72
            have OL := OL.ext E72
            have _t := trivial
            have KK := KK.ext E72
            have O_b70 := ObG.new hw X73 D74
            refine g_dup cx d9_106 rfl ?_
            refine g_aloadN cx d9_107 rfl rfl ?_
            refine g_virtual cx (y := (⟨"com/example/crisp_typedef/crisptypedef/NumberText$Parts", "negative", "()Z"⟩ : MethodName)) (z := (⟨"com/example/crisp_typedef/crisptypedef/NumberText$Parts", "negative", "()Z"⟩ : MethodName)) (a := P) d9_108 (hw _ (List.mem_of_getElem? (i := 129) rfl)) (hw _ (List.mem_of_getElem? (i := 130) rfl)) (hw _ (List.mem_of_getElem? (i := 88) rfl)) (hw _ (List.mem_of_getElem? (i := 133) rfl)) (hw _ (List.mem_of_getElem? (i := 132) rfl)) (hw _ (List.mem_of_getElem? (i := 131) rfl)) rfl (by decide) O_P.1 (bytes := prog_21_method_5_code) (maxL' := 1) (M := (rg2 l Z a0 hw  P ng sa po en xx _ O_P OL)) rfl (lenOf pd_3 rfl) (by decide) (W := 2) (Nat.le_of_eq rfl) (by decide) (k' := 2) (n' := 10) rfl rfl (by decide) (by decide) (argsL := []) (rest := [(.ref b70), (.ref b70)]) rfl (fun v77 h76 q78 => ?_)
            obtain ⟨rfl, rfl⟩ := q78
            refine G.cast (st' := [(.int (nar .boolean ng)), (.ref b70), (.ref b70)]) ?_ rfl
            refine g_iloadN cx d9_111 rfl ?_
            refine g_iloadN cx d9_112 rfl ?_
            refine g_iload cx d9_113 rfl ?_
            refine g_lload cx d9_115 rfl ?_
            refine g_aloadN cx d9_117 rfl rfl ?_
            refine g_virtual cx (y := (⟨"com/example/crisp_typedef/crisptypedef/NumberText$Parts", "exponent", "()J"⟩ : MethodName)) (z := (⟨"com/example/crisp_typedef/crisptypedef/NumberText$Parts", "exponent", "()J"⟩ : MethodName)) (a := P) d9_118 (hw _ (List.mem_of_getElem? (i := 134) rfl)) (hw _ (List.mem_of_getElem? (i := 135) rfl)) (hw _ (List.mem_of_getElem? (i := 88) rfl)) (hw _ (List.mem_of_getElem? (i := 138) rfl)) (hw _ (List.mem_of_getElem? (i := 137) rfl)) (hw _ (List.mem_of_getElem? (i := 136) rfl)) rfl (by decide) O_P.1 (bytes := prog_21_method_9_code) (maxL' := 1) (M := (rg3 l Z a0 hw  P ng sa po en xx _ O_P OL)) rfl (lenOf pd_11 rfl) (by decide) (W := 8) (Nat.le_of_eq rfl) (by decide) (k' := 2) (n' := 10) rfl rfl (by decide) (by decide) (argsL := []) (rest := [(.long ((((po - la) - (1 : Int32))).toInt64)), (.int po), (.int la), (.int fi), (.int (nar .boolean ng)), (.ref b70), (.ref b70)]) rfl (fun v81 h80 q82 => ?_)
            obtain ⟨rfl, rfl⟩ := q82
            refine G.cast (st' := [(.long xx), (.long ((((po - la) - (1 : Int32))).toInt64)), (.int po), (.int la), (.int fi), (.int (nar .boolean ng)), (.ref b70), (.ref b70)]) ?_ rfl
            refine g_ladd cx d9_121 ?_
            refine g_special cx (y := (⟨"com/example/crisp_typedef/crisptypedef/NumberText$Significand", "<init>", "(ZIIIJ)V"⟩ : MethodName)) (a := b70) d9_122 rfl rfl (hw _ (List.mem_of_getElem? (i := 139) rfl)) (hw _ (List.mem_of_getElem? (i := 140) rfl)) (hw _ (List.mem_of_getElem? (i := 128) rfl)) (hw _ (List.mem_of_getElem? (i := 141) rfl)) (by decide) (bytes := prog_22_method_1_code) (maxL' := 7) (M := (rmGI l Z a0 hw b70 ((nar .boolean ng)) fi la po ((((((po - la) - (1 : Int32))).toInt64) + xx)) _ O_b70 g_b70 OL)) rfl (lenOf pd_8 rfl) (by decide) (W := 1) (Nat.le_of_eq rfl) (by decide) (k' := 2) (n' := 10) rfl rfl (by decide) (by decide) (argsL := [(.int (nar .boolean ng)), (.int fi), (.int la), (.int po), (.long (((((po - la) - (1 : Int32))).toInt64) + xx))]) (rest := [(.ref b70)]) rfl (fun v85 h84 q86 => ?_)
            obtain ⟨rfl, K83, O_b70⟩ := q86
            have O_P := O_P.keep K83 (ninS ne_P_b70 nin0)
            have OL := OL.keep K83 (allS g_b70 all0)
            have _t := trivial
            have KK := KK.trans K83 (allS (P := fun z => z ∈ _ ∨ _ ≤ z) (Or.inr sz_b70) all0)
            refine G.cast (st' := [(.ref b70)]) ?_ rfl
            refine g_retA cx d9_125 (t := (.object "com/example/crisp_typedef/crisptypedef/NumberText$Significand")) rfl rfl rfl rfl (by decide) (by decide) ?_
            have hq : ¬ la.toInt < fi.toInt := fun z => hc52 (Int32.lt_iff_toInt_lt.mpr z)
            have hla0 : 0 ≤ la.toInt := by omega
            exact Or.inr ⟨b70, _, fi, la, _, _, rfl, KK, sz_b70, O_b70, sa, en, ⟨f1, f2, f3, f4, f5, f6, f7⟩, (fun q => absurd q hc52), (fun _ => ⟨la.toNatClampNeg, by rw [own_nat hla0]; omega, by rw [own_nat hla0]; omega, own_zp0 hc65⟩)⟩
        · refine g_iinc cx d9_68 rfl (v := (-1 : Int32)) rfl (Ls' := #[.val (.ref tx), .val (.ref P), .val (.int fi), .val (.int (la + (-1 : Int32))), .unset, .unset, .unset]) rfl ?_
          refine g_goto cx d9_71 ?_
          have hq : ¬ la.toInt < fi.toInt := fun z => hc52 (Int32.lt_iff_toInt_lt.mpr z)
          have hla0 : 0 ≤ la.toInt := by omega
          have e1 := own_pv hla0
          refine ihv (la + (-1 : Int32)) (by omega) (by omega) (by omega) (fun j a b => ?_)
          by_cases z : (j : Int) = la.toInt
          · exact own_at hla0 z (own_zp1 hc65)
          · exact hl j (by omega) b
  have loop1 : ∀ (h : Heap) (P : Addr) (ng sa po en : Int32) (xx : Int64), Old Z Z.heap.size h → Keep h0 h [] → own_T Z h mm tx n ch → ObP Z h P (.int ng) (.int sa) (.int po) (.int en) (.long xx) → own_PP n ch sa en → ∀ (fu : Nat) (fi : Int32), en.toInt - fi.toInt ≤ (fu : Nat) → sa.toInt ≤ fi.toInt → fi.toInt ≤ en.toInt → (∀ j : Nat, sa.toInt ≤ (j : Int) → (j : Int) < fi.toInt → own_z (ch j)) → G p l e ({ frames := 6, cells := 2, slots := 10, locals := 94 } : Room) s m #[.ref tx] below meth c Z.heap.size (fun v h' => (v = some .null ∧ Keep h0 h' []) ∨ (∃ (g : Addr) (ng fi la po : Int32) (pw : Int64), v = some (.ref g) ∧ Keep h0 h' [] ∧ h0.size ≤ g ∧ ObG Z h' g (.int ng) (.int fi) (.int la) (.int po) (.long pw) ∧ own_RR n ch fi la)) h 1 5 16 #[.val (.ref tx), .val (.ref P), .val (.int fi), .unset, .unset, .unset, .unset] [] := by
    intro h P ng sa po en xx OL KK TT O_P hPP fu
    have O_tx := own_Tx TT
    obtain ⟨hmh, n1, n5, hch⟩ := own_Tn TT
    obtain ⟨f1, f2, f3, f4, f5, f6, f7⟩ := hPP
    induction fu with
    | zero =>
      intro fi hfu hf1 hf2 zs
      refine g_iloadN cx d9_16 rfl ?_
      refine g_aloadN cx d9_17 rfl rfl ?_
      refine g_virtual cx (y := (⟨"com/example/crisp_typedef/crisptypedef/NumberText$Parts", "end", "()I"⟩ : MethodName)) (z := (⟨"com/example/crisp_typedef/crisptypedef/NumberText$Parts", "end", "()I"⟩ : MethodName)) (a := P) d9_18 (hw _ (List.mem_of_getElem? (i := 113) rfl)) (hw _ (List.mem_of_getElem? (i := 114) rfl)) (hw _ (List.mem_of_getElem? (i := 88) rfl)) (hw _ (List.mem_of_getElem? (i := 117) rfl)) (hw _ (List.mem_of_getElem? (i := 116) rfl)) (hw _ (List.mem_of_getElem? (i := 115) rfl)) rfl (by decide) O_P.1 (bytes := prog_21_method_8_code) (maxL' := 1) (M := (rg4 l Z a0 hw  P ng sa po en xx _ O_P OL)) rfl (lenOf pd_5 rfl) (by decide) (W := 1) (Nat.le_of_eq rfl) (by decide) (k' := 1) (n' := 5) rfl rfl (by decide) (by decide) (argsL := []) (rest := [(.int fi)]) rfl (fun v3 h2 q4 => ?_)
      obtain ⟨rfl, rfl⟩ := q4
      refine G.cast (st' := [(.int en), (.int fi)]) ?_ rfl
      refine g_icmp_ge cx d9_21 (fun hc21 => ?_) (fun q => absurd q (fun q => absurd (Int32.lt_iff_toInt_lt.mp q) (by omega)))
      refine g_aloadN cx d9_43 rfl rfl ?_
      refine g_virtual cx (y := (⟨"com/example/crisp_typedef/crisptypedef/NumberText$Parts", "end", "()I"⟩ : MethodName)) (z := (⟨"com/example/crisp_typedef/crisptypedef/NumberText$Parts", "end", "()I"⟩ : MethodName)) (a := P) d9_44 (hw _ (List.mem_of_getElem? (i := 113) rfl)) (hw _ (List.mem_of_getElem? (i := 114) rfl)) (hw _ (List.mem_of_getElem? (i := 88) rfl)) (hw _ (List.mem_of_getElem? (i := 117) rfl)) (hw _ (List.mem_of_getElem? (i := 116) rfl)) (hw _ (List.mem_of_getElem? (i := 115) rfl)) rfl (by decide) O_P.1 (bytes := prog_21_method_8_code) (maxL' := 1) (M := (rg4 l Z a0 hw  P ng sa po en xx _ O_P OL)) rfl (lenOf pd_5 rfl) (by decide) (W := 0) (Nat.le_of_eq rfl) (by decide) (k' := 1) (n' := 5) rfl rfl (by decide) (by decide) (argsL := []) (rest := []) rfl (fun v7 h6 q8 => ?_)
      obtain ⟨rfl, rfl⟩ := q8
      refine G.cast (st' := [(.int en)]) ?_ rfl
      refine g_iconst cx d9_47 (v := (1 : Int32)) rfl ?_
      refine g_isub cx d9_48 ?_
      refine g_istoreN cx d9_49 (Ls' := #[.val (.ref tx), .val (.ref P), .val (.int fi), .val (.int (en - (1 : Int32))), .unset, .unset, .unset]) rfl ?_
      have e1 := own_sb1 (i := en) (by omega)
      exact loop2 _ P ng sa po en xx fi OL KK TT O_P ⟨f1, f2, f3, f4, f5, f6, f7⟩ hf1 hf2 zs 6 (en - (1 : Int32)) (by omega) (by omega) (by omega) (fun j a b => by omega)
    | succ fu ih =>
      intro fi hfu hf1 hf2 zs
      refine g_iloadN cx d9_16 rfl ?_
      refine g_aloadN cx d9_17 rfl rfl ?_
      refine g_virtual cx (y := (⟨"com/example/crisp_typedef/crisptypedef/NumberText$Parts", "end", "()I"⟩ : MethodName)) (z := (⟨"com/example/crisp_typedef/crisptypedef/NumberText$Parts", "end", "()I"⟩ : MethodName)) (a := P) d9_18 (hw _ (List.mem_of_getElem? (i := 113) rfl)) (hw _ (List.mem_of_getElem? (i := 114) rfl)) (hw _ (List.mem_of_getElem? (i := 88) rfl)) (hw _ (List.mem_of_getElem? (i := 117) rfl)) (hw _ (List.mem_of_getElem? (i := 116) rfl)) (hw _ (List.mem_of_getElem? (i := 115) rfl)) rfl (by decide) O_P.1 (bytes := prog_21_method_8_code) (maxL' := 1) (M := (rg4 l Z a0 hw  P ng sa po en xx _ O_P OL)) rfl (lenOf pd_5 rfl) (by decide) (W := 1) (Nat.le_of_eq rfl) (by decide) (k' := 1) (n' := 5) rfl rfl (by decide) (by decide) (argsL := []) (rest := [(.int fi)]) rfl (fun v3 h2 q4 => ?_)
      obtain ⟨rfl, rfl⟩ := q4
      refine G.cast (st' := [(.int en), (.int fi)]) ?_ rfl
      refine g_icmp_ge cx d9_21 (fun hc21 => ?_) (fun hc21 => ?_)
      · refine g_aloadN cx d9_43 rfl rfl ?_
        refine g_virtual cx (y := (⟨"com/example/crisp_typedef/crisptypedef/NumberText$Parts", "end", "()I"⟩ : MethodName)) (z := (⟨"com/example/crisp_typedef/crisptypedef/NumberText$Parts", "end", "()I"⟩ : MethodName)) (a := P) d9_44 (hw _ (List.mem_of_getElem? (i := 113) rfl)) (hw _ (List.mem_of_getElem? (i := 114) rfl)) (hw _ (List.mem_of_getElem? (i := 88) rfl)) (hw _ (List.mem_of_getElem? (i := 117) rfl)) (hw _ (List.mem_of_getElem? (i := 116) rfl)) (hw _ (List.mem_of_getElem? (i := 115) rfl)) rfl (by decide) O_P.1 (bytes := prog_21_method_8_code) (maxL' := 1) (M := (rg4 l Z a0 hw  P ng sa po en xx _ O_P OL)) rfl (lenOf pd_5 rfl) (by decide) (W := 0) (Nat.le_of_eq rfl) (by decide) (k' := 1) (n' := 5) rfl rfl (by decide) (by decide) (argsL := []) (rest := []) rfl (fun v7 h6 q8 => ?_)
        obtain ⟨rfl, rfl⟩ := q8
        refine G.cast (st' := [(.int en)]) ?_ rfl
        refine g_iconst cx d9_47 (v := (1 : Int32)) rfl ?_
        refine g_isub cx d9_48 ?_
        refine g_istoreN cx d9_49 (Ls' := #[.val (.ref tx), .val (.ref P), .val (.int fi), .val (.int (en - (1 : Int32))), .unset, .unset, .unset]) rfl ?_
        have e1 := own_sb1 (i := en) (by omega)
        exact loop2 _ P ng sa po en xx fi OL KK TT O_P ⟨f1, f2, f3, f4, f5, f6, f7⟩ hf1 hf2 zs 6 (en - (1 : Int32)) (by omega) (by omega) (by omega) (fun j a b => by omega)
      · refine g_aloadN cx d9_24 rfl rfl ?_
        refine g_iloadN cx d9_25 rfl ?_
        refine g_interface cx (x := (⟨"java/lang/CharSequence", "charAt", "(I)C"⟩ : MethodName)) (y := (⟨"java/lang/String", "charAt", "(I)C"⟩ : MethodName)) (a := tx) d9_26 (hw _ (List.mem_of_getElem? (i := 58) rfl)) (hw _ (List.mem_of_getElem? (i := 59) rfl)) (hw _ (List.mem_of_getElem? (i := 60) rfl)) (hw _ (List.mem_of_getElem? (i := 10) rfl)) (hw _ (List.mem_of_getElem? (i := 65) rfl)) (hw _ (List.mem_of_getElem? (i := 61) rfl)) (hw _ (List.mem_of_getElem? (i := 62) rfl)) (hw _ (List.mem_of_getElem? (i := 63) rfl)) (hw _ (List.mem_of_getElem? (i := 64) rfl)) (hw _ (List.mem_of_getElem? (i := 51) rfl)) (by decide) O_tx.1 (bytes := jdk_42_method_56_code) (maxL' := 2) (M := (rmca l Z a0 hw cs SCS hcs fv hfv SFV mm tx n ch _ TT OL fi (own_lt0 (by have i_hc21 : (fi).toInt < (en).toInt := Int32.lt_iff_toInt_lt.mp hc21; omega)) (own_ltI (by have i_hc21 : (fi).toInt < (en).toInt := Int32.lt_iff_toInt_lt.mp hc21; omega)))) rfl (lenOf pd_6 rfl) (by decide) (W := 0) (Nat.le_of_eq rfl) (by decide) (k' := 1) (n' := 5) rfl rfl (by decide) (by decide) (argsL := [(.int fi)]) (rest := []) rfl (fun v10 h9 q11 => ?_)
        obtain ⟨rfl, rfl⟩ := q11
        refine G.cast (st' := [(.int (ch fi.toNatClampNeg))]) ?_ rfl
        refine g_static cx (y := (⟨"com/example/crisp_typedef/crisptypedef/NumberText", "isZeroOrPoint", "(C)Z"⟩ : MethodName)) d9_31 (hw _ (List.mem_of_getElem? (i := 118) rfl)) (hw _ (List.mem_of_getElem? (i := 119) rfl)) (hw _ (List.mem_of_getElem? (i := 39) rfl)) (hw _ (List.mem_of_getElem? (i := 120) rfl)) (by decide) (bytes := prog_20_method_9_code) (maxL' := 1) (M := (rmzp l Z a0 hw _ _)) rfl (lenOf pd_12 rfl) (by decide) (W := 0) (Nat.le_of_eq rfl) (by decide) (k' := 1) (n' := 5) rfl rfl (by decide) (by decide) (argsL := [(.int (ch fi.toNatClampNeg))]) (rest := []) rfl (fun v13 h12 q14 => ?_)
        obtain ⟨rfl, rfl⟩ := q14
        refine G.cast (st' := [(.int (own_zp (ch fi.toNatClampNeg)))]) ?_ rfl
        refine g_if_eq cx d9_34 (fun hc34 => ?_) (fun hc34 => ?_)
        · refine g_aloadN cx d9_43 rfl rfl ?_
          refine g_virtual cx (y := (⟨"com/example/crisp_typedef/crisptypedef/NumberText$Parts", "end", "()I"⟩ : MethodName)) (z := (⟨"com/example/crisp_typedef/crisptypedef/NumberText$Parts", "end", "()I"⟩ : MethodName)) (a := P) d9_44 (hw _ (List.mem_of_getElem? (i := 113) rfl)) (hw _ (List.mem_of_getElem? (i := 114) rfl)) (hw _ (List.mem_of_getElem? (i := 88) rfl)) (hw _ (List.mem_of_getElem? (i := 117) rfl)) (hw _ (List.mem_of_getElem? (i := 116) rfl)) (hw _ (List.mem_of_getElem? (i := 115) rfl)) rfl (by decide) O_P.1 (bytes := prog_21_method_8_code) (maxL' := 1) (M := (rg4 l Z a0 hw  P ng sa po en xx _ O_P OL)) rfl (lenOf pd_5 rfl) (by decide) (W := 0) (Nat.le_of_eq rfl) (by decide) (k' := 1) (n' := 5) rfl rfl (by decide) (by decide) (argsL := []) (rest := []) rfl (fun v17 h16 q18 => ?_)
          obtain ⟨rfl, rfl⟩ := q18
          refine G.cast (st' := [(.int en)]) ?_ rfl
          refine g_iconst cx d9_47 (v := (1 : Int32)) rfl ?_
          refine g_isub cx d9_48 ?_
          refine g_istoreN cx d9_49 (Ls' := #[.val (.ref tx), .val (.ref P), .val (.int fi), .val (.int (en - (1 : Int32))), .unset, .unset, .unset]) rfl ?_
          have e1 := own_sb1 (i := en) (by omega)
          exact loop2 _ P ng sa po en xx fi OL KK TT O_P ⟨f1, f2, f3, f4, f5, f6, f7⟩ hf1 hf2 zs 6 (en - (1 : Int32)) (by omega) (by omega) (by omega) (fun j a b => by omega)
        · refine g_iinc cx d9_37 rfl (v := (1 : Int32)) rfl (Ls' := #[.val (.ref tx), .val (.ref P), .val (.int (fi + (1 : Int32))), .unset, .unset, .unset, .unset]) rfl ?_
          refine g_goto cx d9_40 ?_
          have e2 := Int32.lt_iff_toInt_lt.mp hc21
          have e1 := own_nx (i := fi) (n := en) (by omega) hc21 (by omega)
          refine ih (fi + (1 : Int32)) (by omega) (by omega) (by omega) (fun j a b => ?_)
          by_cases z : (j : Int) = fi.toInt
          · exact own_at (by omega) z (own_zp1 hc34)
          · exact zs j a (by omega)
  refine g_aloadN cx d9_0 rfl rfl ?_
  refine g_static cx (y := (⟨"com/example/crisp_typedef/crisptypedef/NumberText", "parse", "(Ljava/lang/CharSequence;)Lcom/example/crisp_typedef/crisptypedef/NumberText$Parts;"⟩ : MethodName)) d9_1 (hw _ (List.mem_of_getElem? (i := 41) rfl)) (hw _ (List.mem_of_getElem? (i := 42) rfl)) (hw _ (List.mem_of_getElem? (i := 39) rfl)) (hw _ (List.mem_of_getElem? (i := 43) rfl)) (by decide) (bytes := prog_20_method_6_code) (maxL' := 11) (M := (rmpa l Z a0 hw cs SCS hcs fv hfv SFV mm tx n ch _ TT OL)) rfl (lenOf pd_13 rfl) (by decide) (W := 0) (Nat.le_of_eq rfl) (by decide) (k' := 1) (n' := 5) rfl rfl (by decide) (by decide) (argsL := [(.ref tx)]) (rest := []) rfl (fun v2 h1 q3 => ?_)
  rcases q3 with ⟨rfl, KP⟩ | ⟨P, ng, sa, po, en, xx, rfl, KP, st_P, O_P, hPP⟩
  · have TT := TT.keep KP all0
    have O_tx := own_Tx TT
    have OL := OL.keep KP all0
    have _t := trivial
    have KK := KK.trans KP all0
    refine G.cast (st' := [.null]) ?_ rfl
    refine g_astoreN cx d9_4 rfl (Ls' := #[.val (.ref tx), .val .null, .unset, .unset, .unset, .unset, .unset]) rfl ?_
    refine g_aloadN cx d9_5 rfl rfl ?_
    refine g_ifnonnull_null cx d9_6 ?_
    refine g_aconst_null cx d9_9 ?_
    refine g_retA cx d9_10 (t := (.object "com/example/crisp_typedef/crisptypedef/NumberText$Significand")) rfl rfl rfl rfl (by decide) (by decide) ?_
    exact Or.inl ⟨rfl, KK⟩
  · have TT := TT.keep KP all0
    have O_tx := own_Tx TT
    have g_P : Z.heap.size ≤ P := Nat.le_trans OL.2.1 st_P
    have sz_P := Nat.le_trans KK.1 st_P
    have OL := OL.keep KP all0
    have _t := trivial
    have KK := KK.trans KP all0
    refine G.cast (st' := [(.ref P)]) ?_ rfl
    refine g_astoreN cx d9_4 rfl (Ls' := #[.val (.ref tx), .val (.ref P), .unset, .unset, .unset, .unset, .unset]) rfl ?_
    refine g_aloadN cx d9_5 rfl rfl ?_
    refine g_ifnonnull_ref cx d9_6 ?_
    refine g_aloadN cx d9_11 rfl rfl ?_
    refine g_virtual cx (y := (⟨"com/example/crisp_typedef/crisptypedef/NumberText$Parts", "start", "()I"⟩ : MethodName)) (z := (⟨"com/example/crisp_typedef/crisptypedef/NumberText$Parts", "start", "()I"⟩ : MethodName)) (a := P) d9_12 (hw _ (List.mem_of_getElem? (i := 108) rfl)) (hw _ (List.mem_of_getElem? (i := 109) rfl)) (hw _ (List.mem_of_getElem? (i := 88) rfl)) (hw _ (List.mem_of_getElem? (i := 112) rfl)) (hw _ (List.mem_of_getElem? (i := 111) rfl)) (hw _ (List.mem_of_getElem? (i := 110) rfl)) rfl (by decide) O_P.1 (bytes := prog_21_method_6_code) (maxL' := 1) (M := (rg5 l Z a0 hw  P ng sa po en xx _ O_P g_P OL)) rfl (lenOf pd_5 rfl) (by decide) (W := 0) (Nat.le_of_eq rfl) (by decide) (k' := 1) (n' := 5) rfl rfl (by decide) (by decide) (argsL := []) (rest := []) rfl (fun v6 h5 q7 => ?_)
    obtain ⟨rfl, rfl⟩ := q7
    refine G.cast (st' := [(.int sa)]) ?_ rfl
    refine g_istoreN cx d9_15 (Ls' := #[.val (.ref tx), .val (.ref P), .val (.int sa), .unset, .unset, .unset, .unset]) rfl ?_
    obtain ⟨f1, f2, f3, f4, f5, f6, f7⟩ := hPP
    exact loop1 _ P ng sa po en xx OL KK TT O_P ⟨f1, f2, f3, f4, f5, f6, f7⟩ 6 sa (by omega) (by omega) (by omega) (fun j a b => by omega)
theorem d1_0 : Dc method_3_code 0 (.iload_n 0) 1 1 := ⟨by decide +kernel, rfl⟩
theorem d1_1 : Dc method_3_code 1 (.sipush 256) 3 4 := ⟨by decide +kernel, rfl⟩
theorem d1_4 : Dc method_3_code 4 (.iand) 1 5 := ⟨by decide +kernel, rfl⟩
theorem d1_5 : Bi method_3_code 5 (Instr.ifCond .eq) 18 8 := ⟨13, by decide +kernel, by decide, by decide, rfl⟩
theorem d1_18 : Dc method_3_code 18 (.bipush 16) 2 20 := ⟨by decide +kernel, rfl⟩
theorem d1_20 : Dc method_3_code 20 (.newarray .char) 2 22 := ⟨by decide +kernel, rfl⟩
theorem d1_22 : Dc method_3_code 22 (.dup) 1 23 := ⟨by decide +kernel, rfl⟩
theorem d1_23 : Dc method_3_code 23 (.iconst 0) 1 24 := ⟨by decide +kernel, rfl⟩
theorem d1_24 : Dc method_3_code 24 (.bipush 48) 2 26 := ⟨by decide +kernel, rfl⟩
theorem d1_26 : Dc method_3_code 26 (.castore) 1 27 := ⟨by decide +kernel, rfl⟩
theorem d1_27 : Dc method_3_code 27 (.dup) 1 28 := ⟨by decide +kernel, rfl⟩
theorem d1_28 : Dc method_3_code 28 (.iconst 1) 1 29 := ⟨by decide +kernel, rfl⟩
theorem d1_29 : Dc method_3_code 29 (.bipush 48) 2 31 := ⟨by decide +kernel, rfl⟩
theorem d1_31 : Dc method_3_code 31 (.castore) 1 32 := ⟨by decide +kernel, rfl⟩
theorem d1_32 : Dc method_3_code 32 (.dup) 1 33 := ⟨by decide +kernel, rfl⟩
theorem d1_33 : Dc method_3_code 33 (.iconst 2) 1 34 := ⟨by decide +kernel, rfl⟩
theorem d1_34 : Dc method_3_code 34 (.bipush 48) 2 36 := ⟨by decide +kernel, rfl⟩
theorem d1_36 : Dc method_3_code 36 (.castore) 1 37 := ⟨by decide +kernel, rfl⟩
theorem d1_37 : Dc method_3_code 37 (.dup) 1 38 := ⟨by decide +kernel, rfl⟩
theorem d1_38 : Dc method_3_code 38 (.iconst 3) 1 39 := ⟨by decide +kernel, rfl⟩
theorem d1_39 : Dc method_3_code 39 (.bipush 49) 2 41 := ⟨by decide +kernel, rfl⟩
theorem d1_41 : Dc method_3_code 41 (.castore) 1 42 := ⟨by decide +kernel, rfl⟩
theorem d1_42 : Dc method_3_code 42 (.dup) 1 43 := ⟨by decide +kernel, rfl⟩
theorem d1_43 : Dc method_3_code 43 (.iconst 4) 1 44 := ⟨by decide +kernel, rfl⟩
theorem d1_44 : Dc method_3_code 44 (.bipush 50) 2 46 := ⟨by decide +kernel, rfl⟩
theorem d1_46 : Dc method_3_code 46 (.castore) 1 47 := ⟨by decide +kernel, rfl⟩
theorem d1_47 : Dc method_3_code 47 (.dup) 1 48 := ⟨by decide +kernel, rfl⟩
theorem d1_48 : Dc method_3_code 48 (.iconst 5) 1 49 := ⟨by decide +kernel, rfl⟩
theorem d1_49 : Dc method_3_code 49 (.bipush 53) 2 51 := ⟨by decide +kernel, rfl⟩
theorem d1_51 : Dc method_3_code 51 (.castore) 1 52 := ⟨by decide +kernel, rfl⟩
theorem d1_52 : Dc method_3_code 52 (.dup) 1 53 := ⟨by decide +kernel, rfl⟩
theorem d1_53 : Dc method_3_code 53 (.bipush 6) 2 55 := ⟨by decide +kernel, rfl⟩
theorem d1_55 : Dc method_3_code 55 (.bipush 55) 2 57 := ⟨by decide +kernel, rfl⟩
theorem d1_57 : Dc method_3_code 57 (.castore) 1 58 := ⟨by decide +kernel, rfl⟩
theorem d1_58 : Dc method_3_code 58 (.dup) 1 59 := ⟨by decide +kernel, rfl⟩
theorem d1_59 : Dc method_3_code 59 (.bipush 7) 2 61 := ⟨by decide +kernel, rfl⟩
theorem d1_61 : Dc method_3_code 61 (.bipush 57) 2 63 := ⟨by decide +kernel, rfl⟩
theorem d1_63 : Dc method_3_code 63 (.castore) 1 64 := ⟨by decide +kernel, rfl⟩
theorem d1_64 : Dc method_3_code 64 (.dup) 1 65 := ⟨by decide +kernel, rfl⟩
theorem d1_65 : Dc method_3_code 65 (.bipush 8) 2 67 := ⟨by decide +kernel, rfl⟩
theorem d1_67 : Dc method_3_code 67 (.bipush 46) 2 69 := ⟨by decide +kernel, rfl⟩
theorem d1_69 : Dc method_3_code 69 (.castore) 1 70 := ⟨by decide +kernel, rfl⟩
theorem d1_70 : Dc method_3_code 70 (.dup) 1 71 := ⟨by decide +kernel, rfl⟩
theorem d1_71 : Dc method_3_code 71 (.bipush 9) 2 73 := ⟨by decide +kernel, rfl⟩
theorem d1_73 : Dc method_3_code 73 (.bipush 46) 2 75 := ⟨by decide +kernel, rfl⟩
theorem d1_75 : Dc method_3_code 75 (.castore) 1 76 := ⟨by decide +kernel, rfl⟩
theorem d1_76 : Dc method_3_code 76 (.dup) 1 77 := ⟨by decide +kernel, rfl⟩
theorem d1_77 : Dc method_3_code 77 (.bipush 10) 2 79 := ⟨by decide +kernel, rfl⟩
theorem d1_79 : Dc method_3_code 79 (.bipush 45) 2 81 := ⟨by decide +kernel, rfl⟩
theorem d1_81 : Dc method_3_code 81 (.castore) 1 82 := ⟨by decide +kernel, rfl⟩
theorem d1_82 : Dc method_3_code 82 (.dup) 1 83 := ⟨by decide +kernel, rfl⟩
theorem d1_83 : Dc method_3_code 83 (.bipush 11) 2 85 := ⟨by decide +kernel, rfl⟩
theorem d1_85 : Dc method_3_code 85 (.bipush 45) 2 87 := ⟨by decide +kernel, rfl⟩
theorem d1_87 : Dc method_3_code 87 (.castore) 1 88 := ⟨by decide +kernel, rfl⟩
theorem d1_88 : Dc method_3_code 88 (.dup) 1 89 := ⟨by decide +kernel, rfl⟩
theorem d1_89 : Dc method_3_code 89 (.bipush 12) 2 91 := ⟨by decide +kernel, rfl⟩
theorem d1_91 : Dc method_3_code 91 (.bipush 101) 2 93 := ⟨by decide +kernel, rfl⟩
theorem d1_93 : Dc method_3_code 93 (.castore) 1 94 := ⟨by decide +kernel, rfl⟩
theorem d1_94 : Dc method_3_code 94 (.dup) 1 95 := ⟨by decide +kernel, rfl⟩
theorem d1_95 : Dc method_3_code 95 (.bipush 13) 2 97 := ⟨by decide +kernel, rfl⟩
theorem d1_97 : Dc method_3_code 97 (.bipush 69) 2 99 := ⟨by decide +kernel, rfl⟩
theorem d1_99 : Dc method_3_code 99 (.castore) 1 100 := ⟨by decide +kernel, rfl⟩
theorem d1_100 : Dc method_3_code 100 (.dup) 1 101 := ⟨by decide +kernel, rfl⟩
theorem d1_101 : Dc method_3_code 101 (.bipush 14) 2 103 := ⟨by decide +kernel, rfl⟩
theorem d1_103 : Dc method_3_code 103 (.bipush 43) 2 105 := ⟨by decide +kernel, rfl⟩
theorem d1_105 : Dc method_3_code 105 (.castore) 1 106 := ⟨by decide +kernel, rfl⟩
theorem d1_106 : Dc method_3_code 106 (.dup) 1 107 := ⟨by decide +kernel, rfl⟩
theorem d1_107 : Dc method_3_code 107 (.bipush 15) 2 109 := ⟨by decide +kernel, rfl⟩
theorem d1_109 : Dc method_3_code 109 (.bipush 48) 2 111 := ⟨by decide +kernel, rfl⟩
theorem d1_111 : Dc method_3_code 111 (.castore) 1 112 := ⟨by decide +kernel, rfl⟩
theorem d1_112 : Dc method_3_code 112 (.astore_n 1) 1 113 := ⟨by decide +kernel, rfl⟩
theorem d1_113 : Dc method_3_code 113 (.aload_n 1) 1 114 := ⟨by decide +kernel, rfl⟩
theorem d1_114 : Dc method_3_code 114 (.iload_n 0) 1 115 := ⟨by decide +kernel, rfl⟩
theorem d1_115 : Dc method_3_code 115 (.bipush 15) 2 117 := ⟨by decide +kernel, rfl⟩
theorem d1_117 : Dc method_3_code 117 (.iand) 1 118 := ⟨by decide +kernel, rfl⟩
theorem d1_118 : Dc method_3_code 118 (.caload) 1 119 := ⟨by decide +kernel, rfl⟩
theorem d1_119 : Dc method_3_code 119 (.ireturn) 1 120 := ⟨by decide +kernel, rfl⟩
theorem d1_8 : Dc method_3_code 8 (.iload_n 0) 1 9 := ⟨by decide +kernel, rfl⟩
theorem d1_9 : Dc method_3_code 9 (.bipush 9) 2 11 := ⟨by decide +kernel, rfl⟩
theorem d1_11 : Dc method_3_code 11 (.iushr) 1 12 := ⟨by decide +kernel, rfl⟩
theorem d1_12 : Dc method_3_code 12 (.sipush 255) 3 15 := ⟨by decide +kernel, rfl⟩
theorem d1_15 : Dc method_3_code 15 (.iand) 1 16 := ⟨by decide +kernel, rfl⟩
theorem d1_16 : Dc method_3_code 16 (.i2c) 1 17 := ⟨by decide +kernel, rfl⟩
theorem d1_17 : Dc method_3_code 17 (.ireturn) 1 18 := ⟨by decide +kernel, rfl⟩
theorem pn_rmpk : plainName "com/example/crisp_typedef/crisptypedef/SignificandIsZeroPinLaw" = true := by first | (simp [plainName, overriddenIn]; done) | decide +kernel
set_option maxRecDepth 65536 in
set_option maxHeartbeats 40000000 in
theorem rmpk (l : Launch) (Z : State) (a0 : Array Value) (hw : ∀ d ∈ tables_1, d.before a0 Z = true) (pp : Int32) (h0 : Heap) (OL : Old Z Z.heap.size h0) :
    Met l Z (⟨"com/example/crisp_typedef/crisptypedef/SignificandIsZeroPinLaw", "pick", "(I)C"⟩ : MethodName) method_3_code 2 (some .char) ({ frames := 0, cells := 1, slots := 16, locals := 0 } : Room) #[(.int pp)] h0 (fun v h' => ∃ r : Int32, v = some (.int r) ∧ Keep h0 h' [] ∧ 0 ≤ r.toInt ∧ r.toInt ≤ 255) := by
  refine met_of (Ls := #[.val (.int pp), .unset]) (plainFor_of_name pn_rmpk) (fun m => by first | (simp [entryFrame, mkF, argsToLocals, Value.category]; done) | rfl) (fun p e s m below meth c cx => ?_)
  have KK := Keep.refl h0 []
  refine g_iloadN cx d1_0 rfl ?_
  refine g_sipush cx d1_1 (v := (256 : Int32)) rfl ?_
  refine g_iand cx d1_4 ?_
  refine g_if_eq cx d1_5 (fun hc5 => ?_) (fun hc5 => ?_)
  · refine g_bipush cx d1_18 (v := (16 : Int32)) rfl ?_
    refine g_newarray cx (ad := "[C") (by decide) d1_20 (hw _ (List.mem_of_getElem? (i := 4) rfl)) (by decide) (cap := 16) (by decide) (by decide) (k' := 1) (n' := 16) rfl rfl (by decide) (by decide) (fun h1 b2 cA3 gb4 E5 X6 => ?_)
    have g_b2 : Z.heap.size ≤ b2 := by rw [gb4]; exact OL.2.1
    have sz_b2 := (by rw [gb4]; exact KK.1 : h0.size ≤ b2)
    have OL := OL.ext E5
    have KK := KK.ext E5
    have A_b2 : Arx Z h1 b2 cA3 .char (16 : Int32) [(.int (0 : Int32)), (.int (0 : Int32)), (.int (0 : Int32)), (.int (0 : Int32)), (.int (0 : Int32)), (.int (0 : Int32)), (.int (0 : Int32)), (.int (0 : Int32)), (.int (0 : Int32)), (.int (0 : Int32)), (.int (0 : Int32)), (.int (0 : Int32)), (.int (0 : Int32)), (.int (0 : Int32)), (.int (0 : Int32)), (.int (0 : Int32))] (.int (0 : Int32)) "[C" := X6.pad (pad_rep [] (.int (0 : Int32)) 16)
    refine g_dup cx d1_22 rfl ?_
    refine g_iconst cx d1_23 (v := (0 : Int32)) rfl ?_
    refine g_bipush cx d1_24 (v := (48 : Int32)) rfl ?_
    refine g_castore cx d1_26 A_b2 ⟨by decide, by decide⟩ (Nat.le_of_ble_eq_true rfl) g_b2 (fun h7 W8 AA9 => ?_)
    have A_b2 : Arx Z h7 b2 cA3 .char (16 : Int32) [(.int (48 : Int32)), (.int (0 : Int32)), (.int (0 : Int32)), (.int (0 : Int32)), (.int (0 : Int32)), (.int (0 : Int32)), (.int (0 : Int32)), (.int (0 : Int32)), (.int (0 : Int32)), (.int (0 : Int32)), (.int (0 : Int32)), (.int (0 : Int32)), (.int (0 : Int32)), (.int (0 : Int32)), (.int (0 : Int32)), (.int (0 : Int32))] (.int (0 : Int32)) "[C" := AA9
    have OL := OL.wr W8 g_b2
    have KK := KK.wr W8 (Or.inr sz_b2)
    refine g_dup cx d1_27 rfl ?_
    refine g_iconst cx d1_28 (v := (1 : Int32)) rfl ?_
    refine g_bipush cx d1_29 (v := (48 : Int32)) rfl ?_
    refine g_castore cx d1_31 A_b2 ⟨by decide, by decide⟩ (Nat.le_of_ble_eq_true rfl) g_b2 (fun h10 W11 AA12 => ?_)
    have A_b2 : Arx Z h10 b2 cA3 .char (16 : Int32) [(.int (48 : Int32)), (.int (48 : Int32)), (.int (0 : Int32)), (.int (0 : Int32)), (.int (0 : Int32)), (.int (0 : Int32)), (.int (0 : Int32)), (.int (0 : Int32)), (.int (0 : Int32)), (.int (0 : Int32)), (.int (0 : Int32)), (.int (0 : Int32)), (.int (0 : Int32)), (.int (0 : Int32)), (.int (0 : Int32)), (.int (0 : Int32))] (.int (0 : Int32)) "[C" := AA12
    have OL := OL.wr W11 g_b2
    have KK := KK.wr W11 (Or.inr sz_b2)
    refine g_dup cx d1_32 rfl ?_
    refine g_iconst cx d1_33 (v := (2 : Int32)) rfl ?_
    refine g_bipush cx d1_34 (v := (48 : Int32)) rfl ?_
    refine g_castore cx d1_36 A_b2 ⟨by decide, by decide⟩ (Nat.le_of_ble_eq_true rfl) g_b2 (fun h13 W14 AA15 => ?_)
    have A_b2 : Arx Z h13 b2 cA3 .char (16 : Int32) [(.int (48 : Int32)), (.int (48 : Int32)), (.int (48 : Int32)), (.int (0 : Int32)), (.int (0 : Int32)), (.int (0 : Int32)), (.int (0 : Int32)), (.int (0 : Int32)), (.int (0 : Int32)), (.int (0 : Int32)), (.int (0 : Int32)), (.int (0 : Int32)), (.int (0 : Int32)), (.int (0 : Int32)), (.int (0 : Int32)), (.int (0 : Int32))] (.int (0 : Int32)) "[C" := AA15
    have OL := OL.wr W14 g_b2
    have KK := KK.wr W14 (Or.inr sz_b2)
    refine g_dup cx d1_37 rfl ?_
    refine g_iconst cx d1_38 (v := (3 : Int32)) rfl ?_
    refine g_bipush cx d1_39 (v := (49 : Int32)) rfl ?_
    refine g_castore cx d1_41 A_b2 ⟨by decide, by decide⟩ (Nat.le_of_ble_eq_true rfl) g_b2 (fun h16 W17 AA18 => ?_)
    have A_b2 : Arx Z h16 b2 cA3 .char (16 : Int32) [(.int (48 : Int32)), (.int (48 : Int32)), (.int (48 : Int32)), (.int (49 : Int32)), (.int (0 : Int32)), (.int (0 : Int32)), (.int (0 : Int32)), (.int (0 : Int32)), (.int (0 : Int32)), (.int (0 : Int32)), (.int (0 : Int32)), (.int (0 : Int32)), (.int (0 : Int32)), (.int (0 : Int32)), (.int (0 : Int32)), (.int (0 : Int32))] (.int (0 : Int32)) "[C" := AA18
    have OL := OL.wr W17 g_b2
    have KK := KK.wr W17 (Or.inr sz_b2)
    refine g_dup cx d1_42 rfl ?_
    refine g_iconst cx d1_43 (v := (4 : Int32)) rfl ?_
    refine g_bipush cx d1_44 (v := (50 : Int32)) rfl ?_
    refine g_castore cx d1_46 A_b2 ⟨by decide, by decide⟩ (Nat.le_of_ble_eq_true rfl) g_b2 (fun h19 W20 AA21 => ?_)
    have A_b2 : Arx Z h19 b2 cA3 .char (16 : Int32) [(.int (48 : Int32)), (.int (48 : Int32)), (.int (48 : Int32)), (.int (49 : Int32)), (.int (50 : Int32)), (.int (0 : Int32)), (.int (0 : Int32)), (.int (0 : Int32)), (.int (0 : Int32)), (.int (0 : Int32)), (.int (0 : Int32)), (.int (0 : Int32)), (.int (0 : Int32)), (.int (0 : Int32)), (.int (0 : Int32)), (.int (0 : Int32))] (.int (0 : Int32)) "[C" := AA21
    have OL := OL.wr W20 g_b2
    have KK := KK.wr W20 (Or.inr sz_b2)
    refine g_dup cx d1_47 rfl ?_
    refine g_iconst cx d1_48 (v := (5 : Int32)) rfl ?_
    refine g_bipush cx d1_49 (v := (53 : Int32)) rfl ?_
    refine g_castore cx d1_51 A_b2 ⟨by decide, by decide⟩ (Nat.le_of_ble_eq_true rfl) g_b2 (fun h22 W23 AA24 => ?_)
    have A_b2 : Arx Z h22 b2 cA3 .char (16 : Int32) [(.int (48 : Int32)), (.int (48 : Int32)), (.int (48 : Int32)), (.int (49 : Int32)), (.int (50 : Int32)), (.int (53 : Int32)), (.int (0 : Int32)), (.int (0 : Int32)), (.int (0 : Int32)), (.int (0 : Int32)), (.int (0 : Int32)), (.int (0 : Int32)), (.int (0 : Int32)), (.int (0 : Int32)), (.int (0 : Int32)), (.int (0 : Int32))] (.int (0 : Int32)) "[C" := AA24
    have OL := OL.wr W23 g_b2
    have KK := KK.wr W23 (Or.inr sz_b2)
    refine g_dup cx d1_52 rfl ?_
    refine g_bipush cx d1_53 (v := (6 : Int32)) rfl ?_
    refine g_bipush cx d1_55 (v := (55 : Int32)) rfl ?_
    refine g_castore cx d1_57 A_b2 ⟨by decide, by decide⟩ (Nat.le_of_ble_eq_true rfl) g_b2 (fun h25 W26 AA27 => ?_)
    have A_b2 : Arx Z h25 b2 cA3 .char (16 : Int32) [(.int (48 : Int32)), (.int (48 : Int32)), (.int (48 : Int32)), (.int (49 : Int32)), (.int (50 : Int32)), (.int (53 : Int32)), (.int (55 : Int32)), (.int (0 : Int32)), (.int (0 : Int32)), (.int (0 : Int32)), (.int (0 : Int32)), (.int (0 : Int32)), (.int (0 : Int32)), (.int (0 : Int32)), (.int (0 : Int32)), (.int (0 : Int32))] (.int (0 : Int32)) "[C" := AA27
    have OL := OL.wr W26 g_b2
    have KK := KK.wr W26 (Or.inr sz_b2)
    refine g_dup cx d1_58 rfl ?_
    refine g_bipush cx d1_59 (v := (7 : Int32)) rfl ?_
    refine g_bipush cx d1_61 (v := (57 : Int32)) rfl ?_
    refine g_castore cx d1_63 A_b2 ⟨by decide, by decide⟩ (Nat.le_of_ble_eq_true rfl) g_b2 (fun h28 W29 AA30 => ?_)
    have A_b2 : Arx Z h28 b2 cA3 .char (16 : Int32) [(.int (48 : Int32)), (.int (48 : Int32)), (.int (48 : Int32)), (.int (49 : Int32)), (.int (50 : Int32)), (.int (53 : Int32)), (.int (55 : Int32)), (.int (57 : Int32)), (.int (0 : Int32)), (.int (0 : Int32)), (.int (0 : Int32)), (.int (0 : Int32)), (.int (0 : Int32)), (.int (0 : Int32)), (.int (0 : Int32)), (.int (0 : Int32))] (.int (0 : Int32)) "[C" := AA30
    have OL := OL.wr W29 g_b2
    have KK := KK.wr W29 (Or.inr sz_b2)
    refine g_dup cx d1_64 rfl ?_
    refine g_bipush cx d1_65 (v := (8 : Int32)) rfl ?_
    refine g_bipush cx d1_67 (v := (46 : Int32)) rfl ?_
    refine g_castore cx d1_69 A_b2 ⟨by decide, by decide⟩ (Nat.le_of_ble_eq_true rfl) g_b2 (fun h31 W32 AA33 => ?_)
    have A_b2 : Arx Z h31 b2 cA3 .char (16 : Int32) [(.int (48 : Int32)), (.int (48 : Int32)), (.int (48 : Int32)), (.int (49 : Int32)), (.int (50 : Int32)), (.int (53 : Int32)), (.int (55 : Int32)), (.int (57 : Int32)), (.int (46 : Int32)), (.int (0 : Int32)), (.int (0 : Int32)), (.int (0 : Int32)), (.int (0 : Int32)), (.int (0 : Int32)), (.int (0 : Int32)), (.int (0 : Int32))] (.int (0 : Int32)) "[C" := AA33
    have OL := OL.wr W32 g_b2
    have KK := KK.wr W32 (Or.inr sz_b2)
    refine g_dup cx d1_70 rfl ?_
    refine g_bipush cx d1_71 (v := (9 : Int32)) rfl ?_
    refine g_bipush cx d1_73 (v := (46 : Int32)) rfl ?_
    refine g_castore cx d1_75 A_b2 ⟨by decide, by decide⟩ (Nat.le_of_ble_eq_true rfl) g_b2 (fun h34 W35 AA36 => ?_)
    have A_b2 : Arx Z h34 b2 cA3 .char (16 : Int32) [(.int (48 : Int32)), (.int (48 : Int32)), (.int (48 : Int32)), (.int (49 : Int32)), (.int (50 : Int32)), (.int (53 : Int32)), (.int (55 : Int32)), (.int (57 : Int32)), (.int (46 : Int32)), (.int (46 : Int32)), (.int (0 : Int32)), (.int (0 : Int32)), (.int (0 : Int32)), (.int (0 : Int32)), (.int (0 : Int32)), (.int (0 : Int32))] (.int (0 : Int32)) "[C" := AA36
    have OL := OL.wr W35 g_b2
    have KK := KK.wr W35 (Or.inr sz_b2)
    refine g_dup cx d1_76 rfl ?_
    refine g_bipush cx d1_77 (v := (10 : Int32)) rfl ?_
    refine g_bipush cx d1_79 (v := (45 : Int32)) rfl ?_
    refine g_castore cx d1_81 A_b2 ⟨by decide, by decide⟩ (Nat.le_of_ble_eq_true rfl) g_b2 (fun h37 W38 AA39 => ?_)
    have A_b2 : Arx Z h37 b2 cA3 .char (16 : Int32) [(.int (48 : Int32)), (.int (48 : Int32)), (.int (48 : Int32)), (.int (49 : Int32)), (.int (50 : Int32)), (.int (53 : Int32)), (.int (55 : Int32)), (.int (57 : Int32)), (.int (46 : Int32)), (.int (46 : Int32)), (.int (45 : Int32)), (.int (0 : Int32)), (.int (0 : Int32)), (.int (0 : Int32)), (.int (0 : Int32)), (.int (0 : Int32))] (.int (0 : Int32)) "[C" := AA39
    have OL := OL.wr W38 g_b2
    have KK := KK.wr W38 (Or.inr sz_b2)
    refine g_dup cx d1_82 rfl ?_
    refine g_bipush cx d1_83 (v := (11 : Int32)) rfl ?_
    refine g_bipush cx d1_85 (v := (45 : Int32)) rfl ?_
    refine g_castore cx d1_87 A_b2 ⟨by decide, by decide⟩ (Nat.le_of_ble_eq_true rfl) g_b2 (fun h40 W41 AA42 => ?_)
    have A_b2 : Arx Z h40 b2 cA3 .char (16 : Int32) [(.int (48 : Int32)), (.int (48 : Int32)), (.int (48 : Int32)), (.int (49 : Int32)), (.int (50 : Int32)), (.int (53 : Int32)), (.int (55 : Int32)), (.int (57 : Int32)), (.int (46 : Int32)), (.int (46 : Int32)), (.int (45 : Int32)), (.int (45 : Int32)), (.int (0 : Int32)), (.int (0 : Int32)), (.int (0 : Int32)), (.int (0 : Int32))] (.int (0 : Int32)) "[C" := AA42
    have OL := OL.wr W41 g_b2
    have KK := KK.wr W41 (Or.inr sz_b2)
    refine g_dup cx d1_88 rfl ?_
    refine g_bipush cx d1_89 (v := (12 : Int32)) rfl ?_
    refine g_bipush cx d1_91 (v := (101 : Int32)) rfl ?_
    refine g_castore cx d1_93 A_b2 ⟨by decide, by decide⟩ (Nat.le_of_ble_eq_true rfl) g_b2 (fun h43 W44 AA45 => ?_)
    have A_b2 : Arx Z h43 b2 cA3 .char (16 : Int32) [(.int (48 : Int32)), (.int (48 : Int32)), (.int (48 : Int32)), (.int (49 : Int32)), (.int (50 : Int32)), (.int (53 : Int32)), (.int (55 : Int32)), (.int (57 : Int32)), (.int (46 : Int32)), (.int (46 : Int32)), (.int (45 : Int32)), (.int (45 : Int32)), (.int (101 : Int32)), (.int (0 : Int32)), (.int (0 : Int32)), (.int (0 : Int32))] (.int (0 : Int32)) "[C" := AA45
    have OL := OL.wr W44 g_b2
    have KK := KK.wr W44 (Or.inr sz_b2)
    refine g_dup cx d1_94 rfl ?_
    refine g_bipush cx d1_95 (v := (13 : Int32)) rfl ?_
    refine g_bipush cx d1_97 (v := (69 : Int32)) rfl ?_
    refine g_castore cx d1_99 A_b2 ⟨by decide, by decide⟩ (Nat.le_of_ble_eq_true rfl) g_b2 (fun h46 W47 AA48 => ?_)
    have A_b2 : Arx Z h46 b2 cA3 .char (16 : Int32) [(.int (48 : Int32)), (.int (48 : Int32)), (.int (48 : Int32)), (.int (49 : Int32)), (.int (50 : Int32)), (.int (53 : Int32)), (.int (55 : Int32)), (.int (57 : Int32)), (.int (46 : Int32)), (.int (46 : Int32)), (.int (45 : Int32)), (.int (45 : Int32)), (.int (101 : Int32)), (.int (69 : Int32)), (.int (0 : Int32)), (.int (0 : Int32))] (.int (0 : Int32)) "[C" := AA48
    have OL := OL.wr W47 g_b2
    have KK := KK.wr W47 (Or.inr sz_b2)
    refine g_dup cx d1_100 rfl ?_
    refine g_bipush cx d1_101 (v := (14 : Int32)) rfl ?_
    refine g_bipush cx d1_103 (v := (43 : Int32)) rfl ?_
    refine g_castore cx d1_105 A_b2 ⟨by decide, by decide⟩ (Nat.le_of_ble_eq_true rfl) g_b2 (fun h49 W50 AA51 => ?_)
    have A_b2 : Arx Z h49 b2 cA3 .char (16 : Int32) [(.int (48 : Int32)), (.int (48 : Int32)), (.int (48 : Int32)), (.int (49 : Int32)), (.int (50 : Int32)), (.int (53 : Int32)), (.int (55 : Int32)), (.int (57 : Int32)), (.int (46 : Int32)), (.int (46 : Int32)), (.int (45 : Int32)), (.int (45 : Int32)), (.int (101 : Int32)), (.int (69 : Int32)), (.int (43 : Int32)), (.int (0 : Int32))] (.int (0 : Int32)) "[C" := AA51
    have OL := OL.wr W50 g_b2
    have KK := KK.wr W50 (Or.inr sz_b2)
    refine g_dup cx d1_106 rfl ?_
    refine g_bipush cx d1_107 (v := (15 : Int32)) rfl ?_
    refine g_bipush cx d1_109 (v := (48 : Int32)) rfl ?_
    refine g_castore cx d1_111 A_b2 ⟨by decide, by decide⟩ (Nat.le_of_ble_eq_true rfl) g_b2 (fun h52 W53 AA54 => ?_)
    have A_b2 : Arx Z h52 b2 cA3 .char (16 : Int32) [(.int (48 : Int32)), (.int (48 : Int32)), (.int (48 : Int32)), (.int (49 : Int32)), (.int (50 : Int32)), (.int (53 : Int32)), (.int (55 : Int32)), (.int (57 : Int32)), (.int (46 : Int32)), (.int (46 : Int32)), (.int (45 : Int32)), (.int (45 : Int32)), (.int (101 : Int32)), (.int (69 : Int32)), (.int (43 : Int32)), (.int (48 : Int32))] (.int (0 : Int32)) "[C" := AA54
    have OL := OL.wr W53 g_b2
    have KK := KK.wr W53 (Or.inr sz_b2)
    refine g_astoreN cx d1_112 rfl (Ls' := #[.val (.int pp), .val (.ref b2)]) rfl ?_
    refine g_aloadN cx d1_113 rfl rfl ?_
    refine g_iloadN cx d1_114 rfl ?_
    refine g_bipush cx d1_115 (v := (15 : Int32)) rfl ?_
    refine g_iand cx d1_117 ?_
    have Dhs55 : (pp &&& (15 : Int32)) = (0 : Int32) ∨ (pp &&& (15 : Int32)) = (1 : Int32) ∨ (pp &&& (15 : Int32)) = (2 : Int32) ∨ (pp &&& (15 : Int32)) = (3 : Int32) ∨ (pp &&& (15 : Int32)) = (4 : Int32) ∨ (pp &&& (15 : Int32)) = (5 : Int32) ∨ (pp &&& (15 : Int32)) = (6 : Int32) ∨ (pp &&& (15 : Int32)) = (7 : Int32) ∨ (pp &&& (15 : Int32)) = (8 : Int32) ∨ (pp &&& (15 : Int32)) = (9 : Int32) ∨ (pp &&& (15 : Int32)) = (10 : Int32) ∨ (pp &&& (15 : Int32)) = (11 : Int32) ∨ (pp &&& (15 : Int32)) = (12 : Int32) ∨ (pp &&& (15 : Int32)) = (13 : Int32) ∨ (pp &&& (15 : Int32)) = (14 : Int32) ∨ (pp &&& (15 : Int32)) = (15 : Int32) := by
      have r2 := rng32 pp
      have e1 : ((pp &&& (15 : Int32))).toInt = (pp).toInt % 16 := c_mask pp (15 : Int32) 4 (by decide) (by decide)
      have e3 : (0 : Int32).toInt = 0 := rfl
      have e4 : (1 : Int32).toInt = 1 := rfl
      have e5 : (2 : Int32).toInt = 2 := rfl
      have e6 : (3 : Int32).toInt = 3 := rfl
      have e7 : (4 : Int32).toInt = 4 := rfl
      have e8 : (5 : Int32).toInt = 5 := rfl
      have e9 : (6 : Int32).toInt = 6 := rfl
      have e10 : (7 : Int32).toInt = 7 := rfl
      have e11 : (8 : Int32).toInt = 8 := rfl
      have e12 : (9 : Int32).toInt = 9 := rfl
      have e13 : (10 : Int32).toInt = 10 := rfl
      have e14 : (11 : Int32).toInt = 11 := rfl
      have e15 : (12 : Int32).toInt = 12 := rfl
      have e16 : (13 : Int32).toInt = 13 := rfl
      have e17 : (14 : Int32).toInt = 14 := rfl
      have e18 : (15 : Int32).toInt = 15 := rfl
      simp only [← Int32.toInt_inj]
      omega
    rcases Dhs55 with hs55 | hs55 | hs55 | hs55 | hs55 | hs55 | hs55 | hs55 | hs55 | hs55 | hs55 | hs55 | hs55 | hs55 | hs55 | hs55
    · rw [hs55]
      refine g_caload cx d1_118 A_b2.1 ⟨by decide, by decide⟩ (v := (.int (48 : Int32))) rfl ?_
      refine g_retN cx d1_119 (t := .char) rfl (by simp) (by decide) (by decide) ?_
      exact ⟨_, rfl, KK, by decide, by decide⟩
    · rw [hs55]
      refine g_caload cx d1_118 A_b2.1 ⟨by decide, by decide⟩ (v := (.int (48 : Int32))) rfl ?_
      refine g_retN cx d1_119 (t := .char) rfl (by simp) (by decide) (by decide) ?_
      exact ⟨_, rfl, KK, by decide, by decide⟩
    · rw [hs55]
      refine g_caload cx d1_118 A_b2.1 ⟨by decide, by decide⟩ (v := (.int (48 : Int32))) rfl ?_
      refine g_retN cx d1_119 (t := .char) rfl (by simp) (by decide) (by decide) ?_
      exact ⟨_, rfl, KK, by decide, by decide⟩
    · rw [hs55]
      refine g_caload cx d1_118 A_b2.1 ⟨by decide, by decide⟩ (v := (.int (49 : Int32))) rfl ?_
      refine g_retN cx d1_119 (t := .char) rfl (by simp) (by decide) (by decide) ?_
      exact ⟨_, rfl, KK, by decide, by decide⟩
    · rw [hs55]
      refine g_caload cx d1_118 A_b2.1 ⟨by decide, by decide⟩ (v := (.int (50 : Int32))) rfl ?_
      refine g_retN cx d1_119 (t := .char) rfl (by simp) (by decide) (by decide) ?_
      exact ⟨_, rfl, KK, by decide, by decide⟩
    · rw [hs55]
      refine g_caload cx d1_118 A_b2.1 ⟨by decide, by decide⟩ (v := (.int (53 : Int32))) rfl ?_
      refine g_retN cx d1_119 (t := .char) rfl (by simp) (by decide) (by decide) ?_
      exact ⟨_, rfl, KK, by decide, by decide⟩
    · rw [hs55]
      refine g_caload cx d1_118 A_b2.1 ⟨by decide, by decide⟩ (v := (.int (55 : Int32))) rfl ?_
      refine g_retN cx d1_119 (t := .char) rfl (by simp) (by decide) (by decide) ?_
      exact ⟨_, rfl, KK, by decide, by decide⟩
    · rw [hs55]
      refine g_caload cx d1_118 A_b2.1 ⟨by decide, by decide⟩ (v := (.int (57 : Int32))) rfl ?_
      refine g_retN cx d1_119 (t := .char) rfl (by simp) (by decide) (by decide) ?_
      exact ⟨_, rfl, KK, by decide, by decide⟩
    · rw [hs55]
      refine g_caload cx d1_118 A_b2.1 ⟨by decide, by decide⟩ (v := (.int (46 : Int32))) rfl ?_
      refine g_retN cx d1_119 (t := .char) rfl (by simp) (by decide) (by decide) ?_
      exact ⟨_, rfl, KK, by decide, by decide⟩
    · rw [hs55]
      refine g_caload cx d1_118 A_b2.1 ⟨by decide, by decide⟩ (v := (.int (46 : Int32))) rfl ?_
      refine g_retN cx d1_119 (t := .char) rfl (by simp) (by decide) (by decide) ?_
      exact ⟨_, rfl, KK, by decide, by decide⟩
    · rw [hs55]
      refine g_caload cx d1_118 A_b2.1 ⟨by decide, by decide⟩ (v := (.int (45 : Int32))) rfl ?_
      refine g_retN cx d1_119 (t := .char) rfl (by simp) (by decide) (by decide) ?_
      exact ⟨_, rfl, KK, by decide, by decide⟩
    · rw [hs55]
      refine g_caload cx d1_118 A_b2.1 ⟨by decide, by decide⟩ (v := (.int (45 : Int32))) rfl ?_
      refine g_retN cx d1_119 (t := .char) rfl (by simp) (by decide) (by decide) ?_
      exact ⟨_, rfl, KK, by decide, by decide⟩
    · rw [hs55]
      refine g_caload cx d1_118 A_b2.1 ⟨by decide, by decide⟩ (v := (.int (101 : Int32))) rfl ?_
      refine g_retN cx d1_119 (t := .char) rfl (by simp) (by decide) (by decide) ?_
      exact ⟨_, rfl, KK, by decide, by decide⟩
    · rw [hs55]
      refine g_caload cx d1_118 A_b2.1 ⟨by decide, by decide⟩ (v := (.int (69 : Int32))) rfl ?_
      refine g_retN cx d1_119 (t := .char) rfl (by simp) (by decide) (by decide) ?_
      exact ⟨_, rfl, KK, by decide, by decide⟩
    · rw [hs55]
      refine g_caload cx d1_118 A_b2.1 ⟨by decide, by decide⟩ (v := (.int (43 : Int32))) rfl ?_
      refine g_retN cx d1_119 (t := .char) rfl (by simp) (by decide) (by decide) ?_
      exact ⟨_, rfl, KK, by decide, by decide⟩
    · rw [hs55]
      refine g_caload cx d1_118 A_b2.1 ⟨by decide, by decide⟩ (v := (.int (48 : Int32))) rfl ?_
      refine g_retN cx d1_119 (t := .char) rfl (by simp) (by decide) (by decide) ?_
      exact ⟨_, rfl, KK, by decide, by decide⟩
  · refine g_iloadN cx d1_8 rfl ?_
    refine g_bipush cx d1_9 (v := (9 : Int32)) rfl ?_
    refine g_iushr cx d1_11 ?_
    refine g_sipush cx d1_12 (v := (255 : Int32)) rfl ?_
    refine g_iand cx d1_15 ?_
    refine g_i2c cx d1_16 ?_
    refine g_retN cx d1_17 (t := .char) rfl (by simp) (by decide) (by decide) ?_
    have r5 := rng32 pp
    have e4 : ((((pp).toUInt32 >>> ((9 : Int32) &&& 31).toUInt32).toInt32)).toInt = ((pp).toInt % 4294967296) / 512 := c_iushr pp (9 : Int32) 9 (by decide) (by decide)
    have e3 : (((((pp).toUInt32 >>> ((9 : Int32) &&& 31).toUInt32).toInt32) &&& (255 : Int32))).toInt = ((((pp).toUInt32 >>> ((9 : Int32) &&& 31).toUInt32).toInt32)).toInt % 256 := c_mask (((pp).toUInt32 >>> ((9 : Int32) &&& 31).toUInt32).toInt32) (255 : Int32) 8 (by decide) (by decide)
    have e2 := c_i2c ((((pp).toUInt32 >>> ((9 : Int32) &&& 31).toUInt32).toInt32) &&& (255 : Int32))
    have e1 : (((nar .char ((((((pp).toUInt32 >>> ((9 : Int32) &&& 31).toUInt32).toInt32) &&& (255 : Int32))).toUInt32.toUInt16.toUInt32.toInt32))).toInt - (((((((pp).toUInt32 >>> ((9 : Int32) &&& 31).toUInt32).toInt32) &&& (255 : Int32))).toUInt32.toUInt16.toUInt32.toInt32)).toInt) % 65536 = 0 ∧ 0 ≤ ((nar .char ((((((pp).toUInt32 >>> ((9 : Int32) &&& 31).toUInt32).toInt32) &&& (255 : Int32))).toUInt32.toUInt16.toUInt32.toInt32))).toInt ∧ ((nar .char ((((((pp).toUInt32 >>> ((9 : Int32) &&& 31).toUInt32).toInt32) &&& (255 : Int32))).toUInt32.toUInt16.toUInt32.toInt32))).toInt < 65536 := c_i2c ((((((pp).toUInt32 >>> ((9 : Int32) &&& 31).toUInt32).toInt32) &&& (255 : Int32))).toUInt32.toUInt16.toUInt32.toInt32)
    exact ⟨_, rfl, KK, by omega, by omega⟩
theorem d2_0 : Dc method_4_code 0 (.iload_n 0) 1 1 := ⟨by decide +kernel, rfl⟩
theorem d2_1 : Dc method_4_code 1 (.iconst 1) 1 2 := ⟨by decide +kernel, rfl⟩
theorem d2_2 : Bi method_4_code 2 (Instr.if_icmp .ne) 20 5 := ⟨18, by decide +kernel, by decide, by decide, rfl⟩
theorem d2_5 : Dc method_4_code 5 (.new 36) 3 8 := ⟨by decide +kernel, rfl⟩
theorem d2_8 : Dc method_4_code 8 (.dup) 1 9 := ⟨by decide +kernel, rfl⟩
theorem d2_9 : Dc method_4_code 9 (.iconst 1) 1 10 := ⟨by decide +kernel, rfl⟩
theorem d2_10 : Dc method_4_code 10 (.newarray .char) 2 12 := ⟨by decide +kernel, rfl⟩
theorem d2_12 : Dc method_4_code 12 (.dup) 1 13 := ⟨by decide +kernel, rfl⟩
theorem d2_13 : Dc method_4_code 13 (.iconst 0) 1 14 := ⟨by decide +kernel, rfl⟩
theorem d2_14 : Dc method_4_code 14 (.iload_n 1) 1 15 := ⟨by decide +kernel, rfl⟩
theorem d2_15 : Dc method_4_code 15 (.castore) 1 16 := ⟨by decide +kernel, rfl⟩
theorem d3_0 : Dc jdk_42_method_3_code 0 (.aload_n 0) 1 1 := ⟨by decide +kernel, rfl⟩
theorem d3_1 : Dc jdk_42_method_3_code 1 (.aload_n 1) 1 2 := ⟨by decide +kernel, rfl⟩
theorem d3_2 : Dc jdk_42_method_3_code 2 (.iconst 0) 1 3 := ⟨by decide +kernel, rfl⟩
theorem d3_3 : Dc jdk_42_method_3_code 3 (.aload_n 1) 1 4 := ⟨by decide +kernel, rfl⟩
theorem d3_4 : Dc jdk_42_method_3_code 4 (.arraylength) 1 5 := ⟨by decide +kernel, rfl⟩
theorem d3_5 : Dc jdk_42_method_3_code 5 (.aconst_null) 1 6 := ⟨by decide +kernel, rfl⟩
theorem d4_0 : Dc jdk_42_method_149_code 0 (.aload_n 0) 1 1 := ⟨by decide +kernel, rfl⟩
theorem d4_1 : Dc jdk_42_method_149_code 1 (.invokespecial 1) 3 4 := ⟨by decide +kernel, rfl⟩
theorem d4_4 : Dc jdk_42_method_149_code 4 (.iload_n 3) 1 5 := ⟨by decide +kernel, rfl⟩
theorem d4_5 : Bi jdk_42_method_149_code 5 (Instr.ifCond .ne) 27 8 := ⟨22, by decide +kernel, by decide, by decide, rfl⟩
theorem d4_27 : Dc jdk_42_method_149_code 27 (.getstatic 38) 3 30 := ⟨by decide +kernel, rfl⟩
theorem d4_30 : Bi jdk_42_method_149_code 30 (Instr.ifCond .eq) 58 33 := ⟨28, by decide +kernel, by decide, by decide, rfl⟩
theorem d4_33 : Dc jdk_42_method_149_code 33 (.aload_n 1) 1 34 := ⟨by decide +kernel, rfl⟩
theorem d4_34 : Dc jdk_42_method_149_code 34 (.iload_n 2) 1 35 := ⟨by decide +kernel, rfl⟩
theorem d4_35 : Dc jdk_42_method_149_code 35 (.iload_n 3) 1 36 := ⟨by decide +kernel, rfl⟩
theorem d6_0 : Dc jdk_52_method_16_code 0 (.iload_n 2) 1 1 := ⟨by decide +kernel, rfl⟩
theorem d6_1 : Dc jdk_52_method_16_code 1 (.newarray .byte) 2 3 := ⟨by decide +kernel, rfl⟩
theorem d6_3 : Dc jdk_52_method_16_code 3 (.astore_n 3) 1 4 := ⟨by decide +kernel, rfl⟩
theorem d6_4 : Dc jdk_52_method_16_code 4 (.aload_n 0) 1 5 := ⟨by decide +kernel, rfl⟩
theorem d6_5 : Dc jdk_52_method_16_code 5 (.iload_n 1) 1 6 := ⟨by decide +kernel, rfl⟩
theorem d6_6 : Dc jdk_52_method_16_code 6 (.aload_n 3) 1 7 := ⟨by decide +kernel, rfl⟩
theorem d6_7 : Dc jdk_52_method_16_code 7 (.iconst 0) 1 8 := ⟨by decide +kernel, rfl⟩
theorem d6_8 : Dc jdk_52_method_16_code 8 (.iload_n 2) 1 9 := ⟨by decide +kernel, rfl⟩
theorem d7_0 : Dc jdk_52_method_21_code 0 (.iconst 0) 1 1 := ⟨by decide +kernel, rfl⟩
theorem d7_1 : Dc jdk_52_method_21_code 1 (.istore 5) 2 3 := ⟨by decide +kernel, rfl⟩
theorem d7_3 : Dc jdk_52_method_21_code 3 (.iload 5) 2 5 := ⟨by decide +kernel, rfl⟩
theorem d7_5 : Dc jdk_52_method_21_code 5 (.iload 4) 2 7 := ⟨by decide +kernel, rfl⟩
theorem d7_7 : Bi jdk_52_method_21_code 7 (Instr.if_icmp .ge) 44 10 := ⟨37, by decide +kernel, by decide, by decide, rfl⟩
theorem d7_10 : Dc jdk_52_method_21_code 10 (.aload_n 0) 1 11 := ⟨by decide +kernel, rfl⟩
theorem d7_11 : Dc jdk_52_method_21_code 11 (.iload_n 1) 1 12 := ⟨by decide +kernel, rfl⟩
theorem d7_12 : Dc jdk_52_method_21_code 12 (.caload) 1 13 := ⟨by decide +kernel, rfl⟩
theorem d7_13 : Dc jdk_52_method_21_code 13 (.istore 6) 2 15 := ⟨by decide +kernel, rfl⟩
theorem d7_15 : Dc jdk_52_method_21_code 15 (.iload 6) 2 17 := ⟨by decide +kernel, rfl⟩
theorem d7_17 : Dc jdk_52_method_21_code 17 (.sipush 255) 3 20 := ⟨by decide +kernel, rfl⟩
theorem d7_20 : Bi jdk_52_method_21_code 20 (Instr.if_icmp .le) 26 23 := ⟨6, by decide +kernel, by decide, by decide, rfl⟩
theorem d7_26 : Dc jdk_52_method_21_code 26 (.aload_n 2) 1 27 := ⟨by decide +kernel, rfl⟩
theorem d7_27 : Dc jdk_52_method_21_code 27 (.iload_n 3) 1 28 := ⟨by decide +kernel, rfl⟩
theorem d7_28 : Dc jdk_52_method_21_code 28 (.iload 6) 2 30 := ⟨by decide +kernel, rfl⟩
theorem d7_30 : Dc jdk_52_method_21_code 30 (.i2b) 1 31 := ⟨by decide +kernel, rfl⟩
theorem d7_31 : Dc jdk_52_method_21_code 31 (.bastore) 1 32 := ⟨by decide +kernel, rfl⟩
theorem d7_32 : Dc jdk_52_method_21_code 32 (.iinc 1 1) 3 35 := ⟨by decide +kernel, rfl⟩
theorem d7_35 : Dc jdk_52_method_21_code 35 (.iinc 3 1) 3 38 := ⟨by decide +kernel, rfl⟩
theorem d7_38 : Dc jdk_52_method_21_code 38 (.iinc 5 1) 3 41 := ⟨by decide +kernel, rfl⟩
theorem d7_41 : Bi jdk_52_method_21_code 41 (Instr.goto) 3 44 := ⟨(-38), by decide +kernel, by decide, by decide, rfl⟩
theorem d7_44 : Dc jdk_52_method_21_code 44 (.iload 4) 2 46 := ⟨by decide +kernel, rfl⟩
theorem d7_46 : Dc jdk_52_method_21_code 46 (.ireturn) 1 47 := ⟨by decide +kernel, rfl⟩
theorem pn_rb4 : plainName "java/lang/StringUTF16" = true := by first | (simp [plainName, overriddenIn]; done) | decide +kernel
set_option maxRecDepth 65536 in
set_option maxHeartbeats 40000000 in
theorem rb4 (l : Launch) (Z : State) (a0 : Array Value) (hw : ∀ d ∈ tables_1, d.before a0 Z = true) (cs : Int32) (SCS : Sta Z Z.heap "java/lang/String" "COMPACT_STRINGS" "Z" (.int cs)) (hcs : ¬ cs = (0 : Int32)) (d0 d1 d2 d3 d4 : Int32) (lo0 : 0 ≤ d0.toInt) (hi0 : d0.toInt ≤ 255) (lo1 : 0 ≤ d1.toInt) (hi1 : d1.toInt ≤ 255) (lo2 : 0 ≤ d2.toInt) (hi2 : d2.toInt ≤ 255) (lo3 : 0 ≤ d3.toInt) (hi3 : d3.toInt ≤ 255) (lo4 : 0 ≤ d4.toInt) (hi4 : d4.toInt ≤ 255) (ad0 ad1 : Addr) (cA_ad0 : ClassId) (cA_ad1 : ClassId) (h0 : Heap) (A_ad0 : Arx Z h0 ad0 cA_ad0 .char (1 : Int32) [(.int (nar .char d0))] (.int (0 : Int32)) "[C") (A_ad1 : Arx Z h0 ad1 cA_ad1 .byte (1 : Int32) [(.int (0 : Int32))] (.int (0 : Int32)) "[B") (ne_ad0_ad1 : ad0 ≠ ad1) (g_ad0 : Z.heap.size ≤ ad0) (g_ad1 : Z.heap.size ≤ ad1) (OL : Old Z Z.heap.size h0) :
    Met l Z (⟨"java/lang/StringUTF16", "compress", "([CI[BII)I"⟩ : MethodName) jdk_52_method_21_code 7 (some .int) ({ frames := 0, cells := 0, slots := 0, locals := 0 } : Room) #[(.ref ad0), (.int (0 : Int32)), (.ref ad1), (.int (0 : Int32)), (.int (1 : Int32))] h0 (fun v h' => (¬ ((255 : Int32) < (nar .char d0)) ∧ v = some (.int (1 : Int32)) ∧ Keep h0 h' [ad1] ∧ Arx Z h' ad1 cA_ad1 .byte (1 : Int32) [(.int (nar .byte (((nar .char d0)).toInt8.toInt32)))] (.int (0 : Int32)) "[B")) := by
  refine met_of (Ls := #[.val (.ref ad0), .val (.int (0 : Int32)), .val (.ref ad1), .val (.int (0 : Int32)), .val (.int (1 : Int32)), .unset, .unset]) (plainFor_of_name pn_rb4) (fun m => by first | (simp [entryFrame, mkF, argsToLocals, Value.category]; done) | rfl) (fun p e s m below meth c cx => ?_)
  have KK := Keep.refl h0 [ad1]
  refine g_iconst cx d7_0 (v := (0 : Int32)) rfl ?_
  refine g_istore cx d7_1 (Ls' := #[.val (.ref ad0), .val (.int (0 : Int32)), .val (.ref ad1), .val (.int (0 : Int32)), .val (.int (1 : Int32)), .val (.int (0 : Int32)), .unset]) rfl ?_
  refine g_iload cx d7_3 rfl ?_
  refine g_iload cx d7_5 rfl ?_
  refine g_icmp_ge cx d7_7 (fun q => absurd q (fun q => by revert q; decide)) (fun hc7 => ?_)
  refine g_aloadN cx d7_10 rfl rfl ?_
  refine g_iloadN cx d7_11 rfl ?_
  refine g_caload cx d7_12 A_ad0.1 ⟨by decide, by decide⟩ (v := (.int (nar .char d0))) rfl ?_
  refine g_istore cx d7_13 (Ls' := #[.val (.ref ad0), .val (.int (0 : Int32)), .val (.ref ad1), .val (.int (0 : Int32)), .val (.int (1 : Int32)), .val (.int (0 : Int32)), .val (.int (nar .char d0))]) rfl ?_
  refine g_iload cx d7_15 rfl ?_
  refine g_sipush cx d7_17 (v := (255 : Int32)) rfl ?_
  refine g_icmp_le cx d7_20 (fun hc20 => ?_) (fun q => absurd q (fun q => by have i_q : ((255 : Int32)).toInt < ((nar .char d0)).toInt := Int32.lt_iff_toInt_lt.mp q; have e1 : (255 : Int32).toInt = 255 := rfl; have r3 := rng32 d0; have e2 : (((nar .char d0)).toInt - (d0).toInt) % 65536 = 0 ∧ 0 ≤ ((nar .char d0)).toInt ∧ ((nar .char d0)).toInt < 65536 := c_i2c d0; omega))
  refine g_aloadN cx d7_26 rfl rfl ?_
  refine g_iloadN cx d7_27 rfl ?_
  refine g_iload cx d7_28 rfl ?_
  refine g_i2b cx d7_30 ?_
  refine g_bastore cx d7_31 A_ad1 ⟨by decide, by decide⟩ (Nat.le_of_ble_eq_true rfl) g_ad1 (fun h1 W2 AA3 => ?_)
  have A_ad0 := A_ad0.other W2 ne_ad0_ad1
  have A_ad1 : Arx Z h1 ad1 cA_ad1 .byte (1 : Int32) [(.int (nar .byte (((nar .char d0)).toInt8.toInt32)))] (.int (0 : Int32)) "[B" := AA3
  have OL := OL.wr W2 g_ad1
  have KK := KK.wr W2 (Or.inl (List.mem_of_getElem? (i := 0) rfl))
  refine g_iinc cx d7_32 rfl (v := (1 : Int32)) rfl (Ls' := #[.val (.ref ad0), .val (.int (1 : Int32)), .val (.ref ad1), .val (.int (0 : Int32)), .val (.int (1 : Int32)), .val (.int (0 : Int32)), .val (.int (nar .char d0))]) rfl ?_
  refine g_iinc cx d7_35 rfl (v := (1 : Int32)) rfl (Ls' := #[.val (.ref ad0), .val (.int (1 : Int32)), .val (.ref ad1), .val (.int (1 : Int32)), .val (.int (1 : Int32)), .val (.int (0 : Int32)), .val (.int (nar .char d0))]) rfl ?_
  refine g_iinc cx d7_38 rfl (v := (1 : Int32)) rfl (Ls' := #[.val (.ref ad0), .val (.int (1 : Int32)), .val (.ref ad1), .val (.int (1 : Int32)), .val (.int (1 : Int32)), .val (.int (1 : Int32)), .val (.int (nar .char d0))]) rfl ?_
  refine g_goto cx d7_41 ?_
  refine g_iload cx d7_3 rfl ?_
  refine g_iload cx d7_5 rfl ?_
  refine g_icmp_ge cx d7_7 (fun hc7x => ?_) (fun q => absurd q (fun q => by revert q; decide))
  refine g_iload cx d7_44 rfl ?_
  refine g_retI cx d7_46 rfl (by decide) (by decide) ?_
  exact ⟨hc20, rfl, KK, A_ad1⟩
theorem pd_14 : parseMethodDescriptor "([CI[BII)I" = some ⟨[(.array .char), .int, (.array .byte), .int, .int], some .int⟩ := by decide +kernel
theorem d6_9 : Dc jdk_52_method_16_code 9 (.invokestatic 115) 3 12 := ⟨by decide +kernel, rfl⟩
theorem d6_12 : Dc jdk_52_method_16_code 12 (.istore 4) 2 14 := ⟨by decide +kernel, rfl⟩
theorem d6_14 : Dc jdk_52_method_16_code 14 (.iload 4) 2 16 := ⟨by decide +kernel, rfl⟩
theorem d6_16 : Dc jdk_52_method_16_code 16 (.iload_n 2) 1 17 := ⟨by decide +kernel, rfl⟩
theorem d6_17 : Bi jdk_52_method_16_code 17 (Instr.if_icmp .eq) 57 20 := ⟨40, by decide +kernel, by decide, by decide, rfl⟩
theorem d6_57 : Dc jdk_52_method_16_code 57 (.aload_n 3) 1 58 := ⟨by decide +kernel, rfl⟩
theorem d6_58 : Dc jdk_52_method_16_code 58 (.areturn) 1 59 := ⟨by decide +kernel, rfl⟩
theorem pn_rb3 : plainName "java/lang/StringUTF16" = true := by first | (simp [plainName, overriddenIn]; done) | decide +kernel
set_option maxRecDepth 65536 in
set_option maxHeartbeats 40000000 in
theorem rb3 (l : Launch) (Z : State) (a0 : Array Value) (hw : ∀ d ∈ tables_1, d.before a0 Z = true) (cs : Int32) (SCS : Sta Z Z.heap "java/lang/String" "COMPACT_STRINGS" "Z" (.int cs)) (hcs : ¬ cs = (0 : Int32)) (d0 d1 d2 d3 d4 : Int32) (lo0 : 0 ≤ d0.toInt) (hi0 : d0.toInt ≤ 255) (lo1 : 0 ≤ d1.toInt) (hi1 : d1.toInt ≤ 255) (lo2 : 0 ≤ d2.toInt) (hi2 : d2.toInt ≤ 255) (lo3 : 0 ≤ d3.toInt) (hi3 : d3.toInt ≤ 255) (lo4 : 0 ≤ d4.toInt) (hi4 : d4.toInt ≤ 255) (ad0 : Addr) (cA_ad0 : ClassId) (h0 : Heap) (A_ad0 : Arx Z h0 ad0 cA_ad0 .char (1 : Int32) [(.int (nar .char d0))] (.int (0 : Int32)) "[C") (g_ad0 : Z.heap.size ≤ ad0) (OL : Old Z Z.heap.size h0) :
    Met l Z (⟨"java/lang/StringUTF16", "compress", "([CII)[B"⟩ : MethodName) jdk_52_method_16_code 6 (some (.array .byte)) ({ frames := 1, cells := 1, slots := 1, locals := 18 } : Room) #[(.ref ad0), (.int (0 : Int32)), (.int (1 : Int32))] h0 (fun v h' => (∃ (b2 : Addr) (cA3 : ClassId) , ¬ ((255 : Int32) < (nar .char d0)) ∧ v = some (.ref b2) ∧ Keep h0 h' [] ∧ h0.size ≤ b2 ∧ Arx Z h' b2 cA3 .byte (1 : Int32) [(.int (nar .byte (((nar .char d0)).toInt8.toInt32)))] (.int (0 : Int32)) "[B")) := by
  refine met_of (Ls := #[.val (.ref ad0), .val (.int (0 : Int32)), .val (.int (1 : Int32)), .unset, .unset, .unset]) (plainFor_of_name pn_rb3) (fun m => by first | (simp [entryFrame, mkF, argsToLocals, Value.category]; done) | rfl) (fun p e s m below meth c cx => ?_)
  have KK := Keep.refl h0 []
  refine g_iloadN cx d6_0 rfl ?_
  refine g_newarray cx (ad := "[B") (by decide) d6_1 (hw _ (List.mem_of_getElem? (i := 26) rfl)) (by decide) (cap := 1) (by decide) (by decide) (k' := 1) (n' := 1) rfl rfl (by decide) (by decide) (fun h1 b2 cA3 gb4 E5 X6 => ?_)
  have ne_ad0_b2 : ad0 ≠ b2 := Nat.ne_of_lt (by rw [gb4]; exact A_ad0.lt)
  have g_b2 : Z.heap.size ≤ b2 := by rw [gb4]; exact OL.2.1
  have sz_b2 := (by rw [gb4]; exact KK.1 : h0.size ≤ b2)
  have A_ad0 := A_ad0.ext E5
  have OL := OL.ext E5
  have KK := KK.ext E5
  have A_b2 : Arx Z h1 b2 cA3 .byte (1 : Int32) [(.int (0 : Int32))] (.int (0 : Int32)) "[B" := X6.pad (pad_rep [] (.int (0 : Int32)) 1)
  refine g_astoreN cx d6_3 rfl (Ls' := #[.val (.ref ad0), .val (.int (0 : Int32)), .val (.int (1 : Int32)), .val (.ref b2), .unset, .unset]) rfl ?_
  refine g_aloadN cx d6_4 rfl rfl ?_
  refine g_iloadN cx d6_5 rfl ?_
  refine g_aloadN cx d6_6 rfl rfl ?_
  refine g_iconst cx d6_7 (v := (0 : Int32)) rfl ?_
  refine g_iloadN cx d6_8 rfl ?_
  refine g_static cx (y := (⟨"java/lang/StringUTF16", "compress", "([CI[BII)I"⟩ : MethodName)) d6_9 (hw _ (List.mem_of_getElem? (i := 27) rfl)) (hw _ (List.mem_of_getElem? (i := 28) rfl)) (hw _ (List.mem_of_getElem? (i := 24) rfl)) (hw _ (List.mem_of_getElem? (i := 29) rfl)) (by decide) (bytes := jdk_52_method_21_code) (maxL' := 7) (M := (rb4 l Z a0 hw cs SCS hcs d0 d1 d2 d3 d4 lo0 hi0 lo1 hi1 lo2 hi2 lo3 hi3 lo4 hi4 ad0 b2 cA_ad0 cA3 _ A_ad0 A_b2 ne_ad0_b2 g_ad0 g_b2 OL)) rfl (lenOf pd_14 rfl) (by decide) (W := 0) (Nat.le_of_eq rfl) (by decide) (k' := 1) (n' := 1) rfl rfl (by decide) (by decide) (argsL := [(.ref ad0), (.int (0 : Int32)), (.ref b2), (.int (0 : Int32)), (.int (1 : Int32))]) (rest := []) rfl (fun v10 h9 q11 => ?_)
  obtain ⟨hq7, rfl, K8, A_b2⟩ := q11
  have A_ad0 := A_ad0.keep K8 (ninS ne_ad0_b2 nin0)
  have OL := OL.keep K8 (allS g_b2 all0)
  have KK := KK.trans K8 (allS (P := fun z => z ∈ _ ∨ _ ≤ z) (Or.inr sz_b2) all0)
  refine G.cast (st' := [(.int (1 : Int32))]) ?_ rfl
  refine g_istore cx d6_12 (Ls' := #[.val (.ref ad0), .val (.int (0 : Int32)), .val (.int (1 : Int32)), .val (.ref b2), .val (.int (1 : Int32)), .unset]) rfl ?_
  refine g_iload cx d6_14 rfl ?_
  refine g_iloadN cx d6_16 rfl ?_
  refine g_icmp_eq cx d6_17 (fun hc17 => ?_) (fun q => absurd q (fun q => by revert q; decide))
  refine g_aloadN cx d6_57 rfl rfl ?_
  refine g_retA cx d6_58 (t := (.array .byte)) rfl rfl rfl rfl (by decide) (by decide) ?_
  exact ⟨b2, cA3, hq7, rfl, KK, sz_b2, A_b2⟩
theorem pd_15 : parseMethodDescriptor "([CII)[B" = some ⟨[(.array .char), .int, .int], some (.array .byte)⟩ := by decide +kernel
theorem d4_36 : Dc jdk_42_method_149_code 36 (.invokestatic 177) 3 39 := ⟨by decide +kernel, rfl⟩
theorem d4_39 : Dc jdk_42_method_149_code 39 (.astore 5) 2 41 := ⟨by decide +kernel, rfl⟩
theorem d4_41 : Dc jdk_42_method_149_code 41 (.aload_n 0) 1 42 := ⟨by decide +kernel, rfl⟩
theorem d4_42 : Dc jdk_42_method_149_code 42 (.aload 5) 2 44 := ⟨by decide +kernel, rfl⟩
theorem d4_44 : Dc jdk_42_method_149_code 44 (.iload_n 3) 1 45 := ⟨by decide +kernel, rfl⟩
theorem d8_0 : Dc jdk_52_method_15_code 0 (.iload_n 1) 1 1 := ⟨by decide +kernel, rfl⟩
theorem d8_1 : Dc jdk_52_method_15_code 1 (.aload_n 0) 1 2 := ⟨by decide +kernel, rfl⟩
theorem d8_2 : Dc jdk_52_method_15_code 2 (.arraylength) 1 3 := ⟨by decide +kernel, rfl⟩
theorem d8_3 : Dc jdk_52_method_15_code 3 (.isub) 1 4 := ⟨by decide +kernel, rfl⟩
theorem d8_4 : Dc jdk_52_method_15_code 4 (.bipush 31) 2 6 := ⟨by decide +kernel, rfl⟩
theorem d8_6 : Dc jdk_52_method_15_code 6 (.iushr) 1 7 := ⟨by decide +kernel, rfl⟩
theorem d8_7 : Dc jdk_52_method_15_code 7 (.i2b) 1 8 := ⟨by decide +kernel, rfl⟩
theorem d8_8 : Dc jdk_52_method_15_code 8 (.ireturn) 1 9 := ⟨by decide +kernel, rfl⟩
theorem pn_rb5 : plainName "java/lang/StringUTF16" = true := by first | (simp [plainName, overriddenIn]; done) | decide +kernel
set_option maxRecDepth 65536 in
set_option maxHeartbeats 40000000 in
theorem rb5 (l : Launch) (Z : State) (a0 : Array Value) (hw : ∀ d ∈ tables_1, d.before a0 Z = true) (cs : Int32) (SCS : Sta Z Z.heap "java/lang/String" "COMPACT_STRINGS" "Z" (.int cs)) (hcs : ¬ cs = (0 : Int32)) (d0 d1 d2 d3 d4 : Int32) (lo0 : 0 ≤ d0.toInt) (hi0 : d0.toInt ≤ 255) (lo1 : 0 ≤ d1.toInt) (hi1 : d1.toInt ≤ 255) (lo2 : 0 ≤ d2.toInt) (hi2 : d2.toInt ≤ 255) (lo3 : 0 ≤ d3.toInt) (hi3 : d3.toInt ≤ 255) (lo4 : 0 ≤ d4.toInt) (hi4 : d4.toInt ≤ 255) (ad0 : Addr) (cA_ad0 : ClassId) (h0 : Heap) (A_ad0 : Arx Z h0 ad0 cA_ad0 .byte (1 : Int32) [(.int (nar .byte (((nar .char d0)).toInt8.toInt32)))] (.int (0 : Int32)) "[B") (g_ad0 : Z.heap.size ≤ ad0) (OL : Old Z Z.heap.size h0) :
    Met l Z (⟨"java/lang/StringUTF16", "coderFromArrayLen", "([BI)B"⟩ : MethodName) jdk_52_method_15_code 2 (some .byte) ({ frames := 0, cells := 0, slots := 0, locals := 0 } : Room) #[(.ref ad0), (.int (1 : Int32))] h0 (fun v h' => (v = some (.int (0 : Int32)) ∧ h0 = h')) := by
  refine met_of (Ls := #[.val (.ref ad0), .val (.int (1 : Int32))]) (plainFor_of_name pn_rb5) (fun m => by first | (simp [entryFrame, mkF, argsToLocals, Value.category]; done) | rfl) (fun p e s m below meth c cx => ?_)
  have KK := Keep.refl h0 []
  refine g_iloadN cx d8_0 rfl ?_
  refine g_aloadN cx d8_1 rfl rfl ?_
  refine g_arraylength cx d8_2 A_ad0.1 ?_
  refine g_isub cx d8_3 ?_
  refine G.cast (st' := [(.int (0 : Int32))]) ?_ rfl
  refine g_bipush cx d8_4 (v := (31 : Int32)) rfl ?_
  refine g_iushr cx d8_6 ?_
  refine G.cast (st' := [(.int (0 : Int32))]) ?_ rfl
  refine g_i2b cx d8_7 ?_
  refine G.cast (st' := [(.int (0 : Int32))]) ?_ rfl
  refine g_retN cx d8_8 (t := .byte) rfl (by simp) (by decide) (by decide) ?_
  exact ⟨rfl, rfl⟩
theorem pd_16 : parseMethodDescriptor "([BI)B" = some ⟨[(.array .byte), .int], some .byte⟩ := by decide +kernel
theorem d4_45 : Dc jdk_42_method_149_code 45 (.invokestatic 47) 3 48 := ⟨by decide +kernel, rfl⟩
theorem d4_48 : Dc jdk_42_method_149_code 48 (.putfield 15) 3 51 := ⟨by decide +kernel, rfl⟩
theorem d4_51 : Dc jdk_42_method_149_code 51 (.aload_n 0) 1 52 := ⟨by decide +kernel, rfl⟩
theorem d4_52 : Dc jdk_42_method_149_code 52 (.aload 5) 2 54 := ⟨by decide +kernel, rfl⟩
theorem d4_54 : Dc jdk_42_method_149_code 54 (.putfield 9) 3 57 := ⟨by decide +kernel, rfl⟩
theorem d4_57 : Dc jdk_42_method_149_code 57 (.return_) 1 58 := ⟨by decide +kernel, rfl⟩
theorem pn_rb2 : plainName "java/lang/String" = true := by first | (simp [plainName, overriddenIn]; done) | decide +kernel
set_option maxRecDepth 65536 in
set_option maxHeartbeats 40000000 in
theorem rb2 (l : Launch) (Z : State) (a0 : Array Value) (hw : ∀ d ∈ tables_1, d.before a0 Z = true) (cs : Int32) (SCS : Sta Z Z.heap "java/lang/String" "COMPACT_STRINGS" "Z" (.int cs)) (hcs : ¬ cs = (0 : Int32)) (d0 d1 d2 d3 d4 : Int32) (lo0 : 0 ≤ d0.toInt) (hi0 : d0.toInt ≤ 255) (lo1 : 0 ≤ d1.toInt) (hi1 : d1.toInt ≤ 255) (lo2 : 0 ≤ d2.toInt) (hi2 : d2.toInt ≤ 255) (lo3 : 0 ≤ d3.toInt) (hi3 : d3.toInt ≤ 255) (lo4 : 0 ≤ d4.toInt) (hi4 : d4.toInt ≤ 255) (ad0 ad1 : Addr) (cA_ad1 : ClassId) (h0 : Heap) (O_ad0 : ObT Z h0 ad0 (.int (0 : Int32)) .null) (A_ad1 : Arx Z h0 ad1 cA_ad1 .char (1 : Int32) [(.int (nar .char d0))] (.int (0 : Int32)) "[C") (ne_ad0_ad1 : ad0 ≠ ad1) (g_ad0 : Z.heap.size ≤ ad0) (g_ad1 : Z.heap.size ≤ ad1) (OL : Old Z Z.heap.size h0) :
    Met l Z (⟨"java/lang/String", "<init>", "([CIILjava/lang/Void;)V"⟩ : MethodName) jdk_42_method_149_code 6 none ({ frames := 2, cells := 1, slots := 1, locals := 35 } : Room) #[(.ref ad0), (.ref ad1), (.int (0 : Int32)), (.int (1 : Int32)), .null] h0 (fun v h' => (∃ (b1 : Addr) (cA2 : ClassId) , ¬ (cs = (0 : Int32)) ∧ ¬ ((255 : Int32) < (nar .char d0)) ∧ v = none ∧ Keep h0 h' [ad0] ∧ h0.size ≤ b1 ∧ Arx Z h' b1 cA2 .byte (1 : Int32) [(.int (nar .byte (((nar .char d0)).toInt8.toInt32)))] (.int (0 : Int32)) "[B" ∧ ObT Z h' ad0 (.int (0 : Int32)) (.ref b1))) := by
  refine met_of (Ls := #[.val (.ref ad0), .val (.ref ad1), .val (.int (0 : Int32)), .val (.int (1 : Int32)), .val .null, .unset]) (plainFor_of_name pn_rb2) (fun m => by first | (simp [entryFrame, mkF, argsToLocals, Value.category]; done) | rfl) (fun p e s m below meth c cx => ?_)
  have KK := Keep.refl h0 [ad0]
  refine g_aloadN cx d4_0 rfl rfl ?_
  refine g_initO cx d4_1 (hw _ (List.mem_of_getElem? (i := 18) rfl)) (hw _ (List.mem_of_getElem? (i := 19) rfl)) (hw _ (List.mem_of_getElem? (i := 20) rfl)) rfl (by decide) (W := 0) (Nat.le_of_eq rfl) (by decide) ?_
  refine g_iloadN cx d4_4 rfl ?_
  refine g_if_ne cx d4_5 (fun hc5 => ?_) (fun q => absurd q (fun q => by revert q; decide))
  refine g_getS cx d4_27 (host := "") (Or.inl (hw _ (List.mem_of_getElem? (i := 21) rfl))) Via.refl (SCS.ext OL.2) ?_
  refine g_if_eq cx d4_30 (fun q => absurd q (fun q => hcs q)) (fun hc30 => ?_)
  refine g_aloadN cx d4_33 rfl rfl ?_
  refine g_iloadN cx d4_34 rfl ?_
  refine g_iloadN cx d4_35 rfl ?_
  refine g_static cx (y := (⟨"java/lang/StringUTF16", "compress", "([CII)[B"⟩ : MethodName)) d4_36 (hw _ (List.mem_of_getElem? (i := 22) rfl)) (hw _ (List.mem_of_getElem? (i := 23) rfl)) (hw _ (List.mem_of_getElem? (i := 24) rfl)) (hw _ (List.mem_of_getElem? (i := 25) rfl)) (by decide) (bytes := jdk_52_method_16_code) (maxL' := 6) (M := (rb3 l Z a0 hw cs SCS hcs d0 d1 d2 d3 d4 lo0 hi0 lo1 hi1 lo2 hi2 lo3 hi3 lo4 hi4 ad1 cA_ad1 _ A_ad1 g_ad1 OL)) rfl (lenOf pd_15 rfl) (by decide) (W := 0) (Nat.le_of_eq rfl) (by decide) (k' := 1) (n' := 1) rfl rfl (by decide) (by decide) (argsL := [(.ref ad1), (.int (0 : Int32)), (.int (1 : Int32))]) (rest := []) rfl (fun v6 h5 q7 => ?_)
  obtain ⟨b1, cA2, hq3, rfl, K4, sq_b1, A_b1⟩ := q7
  have ne_ad0_b1 : ad0 ≠ b1 := Nat.ne_of_lt (Nat.lt_of_lt_of_le O_ad0.lt sq_b1)
  have ne_ad1_b1 : ad1 ≠ b1 := Nat.ne_of_lt (Nat.lt_of_lt_of_le A_ad1.lt sq_b1)
  have g_b1 : Z.heap.size ≤ b1 := Nat.le_trans OL.2.1 sq_b1
  have sz_b1 := Nat.le_trans KK.1 sq_b1
  have O_ad0 := O_ad0.keep K4 nin0
  have A_ad1 := A_ad1.keep K4 nin0
  have OL := OL.keep K4 all0
  have KK := KK.trans K4 all0
  refine G.cast (st' := [(.ref b1)]) ?_ rfl
  refine g_astore cx d4_39 rfl (Ls' := #[.val (.ref ad0), .val (.ref ad1), .val (.int (0 : Int32)), .val (.int (1 : Int32)), .val .null, .val (.ref b1)]) rfl ?_
  refine g_aloadN cx d4_41 rfl rfl ?_
  refine g_aload cx d4_42 rfl rfl ?_
  refine g_iloadN cx d4_44 rfl ?_
  refine g_static cx (y := (⟨"java/lang/StringUTF16", "coderFromArrayLen", "([BI)B"⟩ : MethodName)) d4_45 (hw _ (List.mem_of_getElem? (i := 30) rfl)) (hw _ (List.mem_of_getElem? (i := 31) rfl)) (hw _ (List.mem_of_getElem? (i := 24) rfl)) (hw _ (List.mem_of_getElem? (i := 32) rfl)) (by decide) (bytes := jdk_52_method_15_code) (maxL' := 2) (M := (rb5 l Z a0 hw cs SCS hcs d0 d1 d2 d3 d4 lo0 hi0 lo1 hi1 lo2 hi2 lo3 hi3 lo4 hi4 b1 cA2 _ A_b1 g_b1 OL)) rfl (lenOf pd_16 rfl) (by decide) (W := 1) (Nat.le_of_eq rfl) (by decide) (k' := 1) (n' := 1) rfl rfl (by decide) (by decide) (argsL := [(.ref b1), (.int (1 : Int32))]) (rest := [(.ref ad0)]) rfl (fun v10 h9 q11 => ?_)
  obtain ⟨rfl, rfl⟩ := q11
  refine G.cast (st' := [(.int (0 : Int32)), (.ref ad0)]) ?_ rfl
  refine g_putFN cx d4_48 (hw _ (List.mem_of_getElem? (i := 33) rfl)) Via.refl O_ad0.2.1 O_ad0.1 (Or.inr ⟨(hw _ (List.mem_of_getElem? (i := 34) rfl)), rfl, rfl⟩) (hw _ (List.mem_of_getElem? (i := 9) rfl)) (ty := .byte) (v' := (.int (0 : Int32))) (by decide) rfl rfl g_ad0 (fun h12 W13 => ?_)
  have O_ad0 := O_ad0.put1 hw W13
  have A_ad1 := A_ad1.other W13 (Ne.symm ne_ad0_ad1)
  have A_b1 := A_b1.other W13 (Ne.symm ne_ad0_b1)
  have OL := OL.wr W13 g_ad0
  have KK := KK.wr W13 (Or.inl (List.mem_of_getElem? (i := 0) rfl))
  refine g_aloadN cx d4_51 rfl rfl ?_
  refine g_aload cx d4_52 rfl rfl ?_
  refine g_putF cx d4_54 (host := "") (Or.inl (hw _ (List.mem_of_getElem? (i := 35) rfl))) Via.refl O_ad0.2.2 O_ad0.1 (Or.inr ⟨(hw _ (List.mem_of_getElem? (i := 36) rfl)), rfl, rfl⟩) (hw _ (List.mem_of_getElem? (i := 9) rfl)) (ty := (.array .byte)) (by decide) rfl rfl g_ad0 (fun h14 W15 => ?_)
  have O_ad0 := O_ad0.put2 hw W15
  have A_ad1 := A_ad1.other W15 (Ne.symm ne_ad0_ad1)
  have A_b1 := A_b1.other W15 (Ne.symm ne_ad0_b1)
  have OL := OL.wr W15 g_ad0
  have KK := KK.wr W15 (Or.inl (List.mem_of_getElem? (i := 0) rfl))
  refine g_retV cx d4_57 rfl (by decide) (by decide) ?_
  exact ⟨b1, cA2, hc30, hq3, rfl, KK, sz_b1, A_b1, O_ad0⟩
theorem pd_17 : parseMethodDescriptor "([CIILjava/lang/Void;)V" = some ⟨[(.array .char), .int, .int, (.object "java/lang/Void")], none⟩ := by decide +kernel
theorem d3_6 : Dc jdk_42_method_3_code 6 (.invokespecial 27) 3 9 := ⟨by decide +kernel, rfl⟩
theorem d3_9 : Dc jdk_42_method_3_code 9 (.return_) 1 10 := ⟨by decide +kernel, rfl⟩
theorem pn_rb1 : plainName "java/lang/String" = true := by first | (simp [plainName, overriddenIn]; done) | decide +kernel
set_option maxRecDepth 65536 in
set_option maxHeartbeats 40000000 in
theorem rb1 (l : Launch) (Z : State) (a0 : Array Value) (hw : ∀ d ∈ tables_1, d.before a0 Z = true) (cs : Int32) (SCS : Sta Z Z.heap "java/lang/String" "COMPACT_STRINGS" "Z" (.int cs)) (hcs : ¬ cs = (0 : Int32)) (d0 d1 d2 d3 d4 : Int32) (lo0 : 0 ≤ d0.toInt) (hi0 : d0.toInt ≤ 255) (lo1 : 0 ≤ d1.toInt) (hi1 : d1.toInt ≤ 255) (lo2 : 0 ≤ d2.toInt) (hi2 : d2.toInt ≤ 255) (lo3 : 0 ≤ d3.toInt) (hi3 : d3.toInt ≤ 255) (lo4 : 0 ≤ d4.toInt) (hi4 : d4.toInt ≤ 255) (ad0 ad1 : Addr) (cA_ad1 : ClassId) (h0 : Heap) (O_ad0 : ObT Z h0 ad0 (.int (0 : Int32)) .null) (A_ad1 : Arx Z h0 ad1 cA_ad1 .char (1 : Int32) [(.int (nar .char d0))] (.int (0 : Int32)) "[C") (ne_ad0_ad1 : ad0 ≠ ad1) (g_ad0 : Z.heap.size ≤ ad0) (g_ad1 : Z.heap.size ≤ ad1) (OL : Old Z Z.heap.size h0) :
    Met l Z (⟨"java/lang/String", "<init>", "([C)V"⟩ : MethodName) jdk_42_method_3_code 2 none ({ frames := 3, cells := 1, slots := 1, locals := 52 } : Room) #[(.ref ad0), (.ref ad1)] h0 (fun v h' => (∃ (b1 : Addr) (cA2 : ClassId) , ¬ (cs = (0 : Int32)) ∧ ¬ ((255 : Int32) < (nar .char d0)) ∧ v = none ∧ Keep h0 h' [ad0] ∧ h0.size ≤ b1 ∧ Arx Z h' b1 cA2 .byte (1 : Int32) [(.int (nar .byte (((nar .char d0)).toInt8.toInt32)))] (.int (0 : Int32)) "[B" ∧ ObT Z h' ad0 (.int (0 : Int32)) (.ref b1))) := by
  refine met_of (Ls := #[.val (.ref ad0), .val (.ref ad1)]) (plainFor_of_name pn_rb1) (fun m => by first | (simp [entryFrame, mkF, argsToLocals, Value.category]; done) | rfl) (fun p e s m below meth c cx => ?_)
  have KK := Keep.refl h0 [ad0]
  refine g_aloadN cx d3_0 rfl rfl ?_
  refine g_aloadN cx d3_1 rfl rfl ?_
  refine g_iconst cx d3_2 (v := (0 : Int32)) rfl ?_
  refine g_aloadN cx d3_3 rfl rfl ?_
  refine g_arraylength cx d3_4 A_ad1.1 ?_
  refine g_aconst_null cx d3_5 ?_
  have lt_ad0 := O_ad0.lt
  refine g_special cx (y := (⟨"java/lang/String", "<init>", "([CIILjava/lang/Void;)V"⟩ : MethodName)) (a := ad0) d3_6 rfl rfl (hw _ (List.mem_of_getElem? (i := 14) rfl)) (hw _ (List.mem_of_getElem? (i := 15) rfl)) (hw _ (List.mem_of_getElem? (i := 10) rfl)) (hw _ (List.mem_of_getElem? (i := 17) rfl)) (by decide) (bytes := jdk_42_method_149_code) (maxL' := 6) (M := (rb2 l Z a0 hw cs SCS hcs d0 d1 d2 d3 d4 lo0 hi0 lo1 hi1 lo2 hi2 lo3 hi3 lo4 hi4 ad0 ad1 cA_ad1 _ O_ad0 A_ad1 ne_ad0_ad1 g_ad0 g_ad1 OL)) rfl (lenOf pd_17 rfl) (by decide) (W := 0) (Nat.le_of_eq rfl) (by decide) (k' := 1) (n' := 1) rfl rfl (by decide) (by decide) (argsL := [(.ref ad1), (.int (0 : Int32)), (.int (1 : Int32)), .null]) (rest := []) rfl (fun v7 h6 q8 => ?_)
  obtain ⟨b1, cA2, hq3, hq4, rfl, K5, sq_b1, A_b1, O_ad0⟩ := q8
  have ne_ad0_b1 : ad0 ≠ b1 := Nat.ne_of_lt (Nat.lt_of_lt_of_le lt_ad0 sq_b1)
  have ne_ad1_b1 : ad1 ≠ b1 := Nat.ne_of_lt (Nat.lt_of_lt_of_le A_ad1.lt sq_b1)
  have g_b1 : Z.heap.size ≤ b1 := Nat.le_trans OL.2.1 sq_b1
  have sz_b1 := Nat.le_trans KK.1 sq_b1
  have A_ad1 := A_ad1.keep K5 (ninS (Ne.symm ne_ad0_ad1) nin0)
  have OL := OL.keep K5 (allS g_ad0 all0)
  have KK := KK.trans K5 (allS (P := fun z => z ∈ _ ∨ _ ≤ z) (Or.inl (List.mem_of_getElem? (i := 0) rfl)) all0)
  refine G.cast (st' := []) ?_ rfl
  refine g_retV cx d3_9 rfl (by decide) (by decide) ?_
  exact ⟨b1, cA2, hq3, hq4, rfl, KK, sz_b1, A_b1, O_ad0⟩
theorem pd_18 : parseMethodDescriptor "([C)V" = some ⟨[(.array .char)], none⟩ := by decide +kernel
theorem d2_16 : Dc method_4_code 16 (.invokespecial 38) 3 19 := ⟨by decide +kernel, rfl⟩
theorem d2_19 : Dc method_4_code 19 (.areturn) 1 20 := ⟨by decide +kernel, rfl⟩
theorem pn_rmbu1 : plainName "com/example/crisp_typedef/crisptypedef/SignificandIsZeroPinLaw" = true := by first | (simp [plainName, overriddenIn]; done) | decide +kernel
set_option maxRecDepth 65536 in
set_option maxHeartbeats 40000000 in
theorem rmbu1 (l : Launch) (Z : State) (a0 : Array Value) (hw : ∀ d ∈ tables_1, d.before a0 Z = true) (cs : Int32) (SCS : Sta Z Z.heap "java/lang/String" "COMPACT_STRINGS" "Z" (.int cs)) (hcs : ¬ cs = (0 : Int32)) (d0 d1 d2 d3 d4 : Int32) (lo0 : 0 ≤ d0.toInt) (hi0 : d0.toInt ≤ 255) (lo1 : 0 ≤ d1.toInt) (hi1 : d1.toInt ≤ 255) (lo2 : 0 ≤ d2.toInt) (hi2 : d2.toInt ≤ 255) (lo3 : 0 ≤ d3.toInt) (hi3 : d3.toInt ≤ 255) (lo4 : 0 ≤ d4.toInt) (hi4 : d4.toInt ≤ 255) (h0 : Heap) (OL : Old Z Z.heap.size h0) :
    Met l Z (⟨"com/example/crisp_typedef/crisptypedef/SignificandIsZeroPinLaw", "build", "(ICCCCC)Ljava/lang/String;"⟩ : MethodName) method_4_code 6 (some (.object "java/lang/String")) ({ frames := 4, cells := 3, slots := 6, locals := 66 } : Room) #[(.int (1 : Int32)), (.int d0), (.int d1), (.int d2), (.int d3), (.int d4)] h0 (fun v h' => ∃ tx : Addr, v = some (.ref tx) ∧ Keep h0 h' [] ∧ h0.size ≤ tx ∧ own_T Z h' h'.size tx (1 : Int32) (own_ch d0 d1 d2 d3 d4)) := by
  refine met_of (Ls := #[.val (.int (1 : Int32)), .val (.int d0), .val (.int d1), .val (.int d2), .val (.int d3), .val (.int d4)]) (plainFor_of_name pn_rmbu1) (fun m => by first | (simp [entryFrame, mkF, argsToLocals, Value.category]; done) | rfl) (fun p e s m below meth c cx => ?_)
  have KK := Keep.refl h0 []
  refine g_iloadN cx d2_0 rfl ?_
  refine g_iconst cx d2_1 (v := (1 : Int32)) rfl ?_
  refine g_icmp_ne cx d2_2 (fun q => absurd q (fun q => by revert q; decide)) (fun hc2 => ?_)
  refine g_new cx d2_5 (hw _ (List.mem_of_getElem? (i := 8) rfl)) (hw _ (List.mem_of_getElem? (i := 9) rfl)) (hw _ (List.mem_of_getElem? (i := 10) rfl)) (k' := 1) (n' := 4) rfl rfl (by decide) (by decide) (fun h1 b2 gb3 E4 X5 D6 => ?_)
  have g_b2 : Z.heap.size ≤ b2 := by rw [gb3]; exact OL.2.1
  have sz_b2 := (by rw [gb3]; exact KK.1 : h0.size ≤ b2)
  have OL := OL.ext E4
  have KK := KK.ext E4
  have O_b2 := ObT.new hw X5 D6
  refine g_dup cx d2_8 rfl ?_
  refine g_iconst cx d2_9 (v := (1 : Int32)) rfl ?_
  refine g_newarray cx (ad := "[C") (by decide) d2_10 (hw _ (List.mem_of_getElem? (i := 4) rfl)) (by decide) (cap := 1) (by decide) (by decide) (k' := 2) (n' := 5) rfl rfl (by decide) (by decide) (fun h7 b8 cA9 gb10 E11 X12 => ?_)
  have ne_b2_b8 : b2 ≠ b8 := Nat.ne_of_lt (by rw [gb10]; exact O_b2.lt)
  have g_b8 : Z.heap.size ≤ b8 := by rw [gb10]; exact OL.2.1
  have sz_b8 := (by rw [gb10]; exact KK.1 : h0.size ≤ b8)
  have O_b2 := O_b2.ext E11
  have OL := OL.ext E11
  have KK := KK.ext E11
  have A_b8 : Arx Z h7 b8 cA9 .char (1 : Int32) [(.int (0 : Int32))] (.int (0 : Int32)) "[C" := X12.pad (pad_rep [] (.int (0 : Int32)) 1)
  refine g_dup cx d2_12 rfl ?_
  refine g_iconst cx d2_13 (v := (0 : Int32)) rfl ?_
  refine g_iloadN cx d2_14 rfl ?_
  refine g_castore cx d2_15 A_b8 ⟨by decide, by decide⟩ (Nat.le_of_ble_eq_true rfl) g_b8 (fun h13 W14 AA15 => ?_)
  have O_b2 := O_b2.oth W14 ne_b2_b8
  have A_b8 : Arx Z h13 b8 cA9 .char (1 : Int32) [(.int (nar .char d0))] (.int (0 : Int32)) "[C" := AA15
  have OL := OL.wr W14 g_b8
  have KK := KK.wr W14 (Or.inr sz_b8)
  have lt_b2 := O_b2.lt
  refine g_special cx (y := (⟨"java/lang/String", "<init>", "([C)V"⟩ : MethodName)) (a := b2) d2_16 rfl rfl (hw _ (List.mem_of_getElem? (i := 11) rfl)) (hw _ (List.mem_of_getElem? (i := 12) rfl)) (hw _ (List.mem_of_getElem? (i := 10) rfl)) (hw _ (List.mem_of_getElem? (i := 13) rfl)) (by decide) (bytes := jdk_42_method_3_code) (maxL' := 2) (M := (rb1 l Z a0 hw cs SCS hcs d0 d1 d2 d3 d4 lo0 hi0 lo1 hi1 lo2 hi2 lo3 hi3 lo4 hi4 b2 b8 cA9 _ O_b2 A_b8 ne_b2_b8 g_b2 g_b8 OL)) rfl (lenOf pd_18 rfl) (by decide) (W := 1) (Nat.le_of_eq rfl) (by decide) (k' := 3) (n' := 6) rfl rfl (by decide) (by decide) (argsL := [(.ref b8)]) (rest := [(.ref b2)]) rfl (fun v22 h21 q23 => ?_)
  obtain ⟨b16, cA17, hq18, hq19, rfl, K20, sq_b16, A_b16, O_b2⟩ := q23
  have ne_b2_b16 : b2 ≠ b16 := Nat.ne_of_lt (Nat.lt_of_lt_of_le lt_b2 sq_b16)
  have ne_b8_b16 : b8 ≠ b16 := Nat.ne_of_lt (Nat.lt_of_lt_of_le A_b8.lt sq_b16)
  have g_b16 : Z.heap.size ≤ b16 := Nat.le_trans OL.2.1 sq_b16
  have sz_b16 := Nat.le_trans KK.1 sq_b16
  have A_b8 := A_b8.keep K20 (ninS (Ne.symm ne_b2_b8) nin0)
  have OL := OL.keep K20 (allS g_b2 all0)
  have KK := KK.trans K20 (allS (P := fun z => z ∈ _ ∨ _ ≤ z) (Or.inr sz_b2) all0)
  refine G.cast (st' := [(.ref b2)]) ?_ rfl
  refine g_retA cx d2_19 (t := (.object "java/lang/String")) rfl rfl rfl rfl (by decide) (by decide) ?_
  have q0 : ((nar .byte (((nar .char d0)).toInt8.toInt32)) &&& (255 : Int32)) = d0 := Int32.toInt_inj.mp (by
    have r5 := rng32 d0
    have e4 : (((nar .char d0)).toInt - (d0).toInt) % 65536 = 0 ∧ 0 ≤ ((nar .char d0)).toInt ∧ ((nar .char d0)).toInt < 65536 := c_i2c d0
    have e3 := c_i2b (nar .char d0)
    have e2 : (((nar .byte (((nar .char d0)).toInt8.toInt32))).toInt - ((((nar .char d0)).toInt8.toInt32)).toInt) % 256 = 0 ∧ -128 ≤ ((nar .byte (((nar .char d0)).toInt8.toInt32))).toInt ∧ ((nar .byte (((nar .char d0)).toInt8.toInt32))).toInt < 128 := c_i2b (((nar .char d0)).toInt8.toInt32)
    have e1 : (((nar .byte (((nar .char d0)).toInt8.toInt32)) &&& (255 : Int32))).toInt = ((nar .byte (((nar .char d0)).toInt8.toInt32))).toInt % 256 := c_mask (nar .byte (((nar .char d0)).toInt8.toInt32)) (255 : Int32) 8 (by decide) (by decide)
    omega)
  refine ⟨b2, rfl, KK, sz_b2, b16, cA17, own_ch (nar .byte (((nar .char d0)).toInt8.toInt32)) (0 : Int32) (0 : Int32) (0 : Int32) (0 : Int32), O_b2.lt, A_b16.lt, Nat.le_refl _, by decide, by decide, O_b2, A_b16, fun j hj => ?_⟩
  have hj : j < 1 := hj
  match j, hj with
  | 0, _ => exact ⟨q0, lo0, hi0⟩
theorem d2_20 : Dc method_4_code 20 (.iload_n 0) 1 21 := ⟨by decide +kernel, rfl⟩
theorem d2_21 : Dc method_4_code 21 (.iconst 2) 1 22 := ⟨by decide +kernel, rfl⟩
theorem d2_22 : Bi method_4_code 22 (Instr.if_icmp .ne) 44 25 := ⟨22, by decide +kernel, by decide, by decide, rfl⟩
theorem d2_25 : Dc method_4_code 25 (.new 36) 3 28 := ⟨by decide +kernel, rfl⟩
theorem d2_28 : Dc method_4_code 28 (.dup) 1 29 := ⟨by decide +kernel, rfl⟩
theorem d2_29 : Dc method_4_code 29 (.iconst 2) 1 30 := ⟨by decide +kernel, rfl⟩
theorem d2_30 : Dc method_4_code 30 (.newarray .char) 2 32 := ⟨by decide +kernel, rfl⟩
theorem d2_32 : Dc method_4_code 32 (.dup) 1 33 := ⟨by decide +kernel, rfl⟩
theorem d2_33 : Dc method_4_code 33 (.iconst 0) 1 34 := ⟨by decide +kernel, rfl⟩
theorem d2_34 : Dc method_4_code 34 (.iload_n 1) 1 35 := ⟨by decide +kernel, rfl⟩
theorem d2_35 : Dc method_4_code 35 (.castore) 1 36 := ⟨by decide +kernel, rfl⟩
theorem d2_36 : Dc method_4_code 36 (.dup) 1 37 := ⟨by decide +kernel, rfl⟩
theorem d2_37 : Dc method_4_code 37 (.iconst 1) 1 38 := ⟨by decide +kernel, rfl⟩
theorem d2_38 : Dc method_4_code 38 (.iload_n 2) 1 39 := ⟨by decide +kernel, rfl⟩
theorem d2_39 : Dc method_4_code 39 (.castore) 1 40 := ⟨by decide +kernel, rfl⟩
theorem pn_rb9 : plainName "java/lang/StringUTF16" = true := by first | (simp [plainName, overriddenIn]; done) | decide +kernel
set_option maxRecDepth 65536 in
set_option maxHeartbeats 40000000 in
theorem rb9 (l : Launch) (Z : State) (a0 : Array Value) (hw : ∀ d ∈ tables_1, d.before a0 Z = true) (cs : Int32) (SCS : Sta Z Z.heap "java/lang/String" "COMPACT_STRINGS" "Z" (.int cs)) (hcs : ¬ cs = (0 : Int32)) (d0 d1 d2 d3 d4 : Int32) (lo0 : 0 ≤ d0.toInt) (hi0 : d0.toInt ≤ 255) (lo1 : 0 ≤ d1.toInt) (hi1 : d1.toInt ≤ 255) (lo2 : 0 ≤ d2.toInt) (hi2 : d2.toInt ≤ 255) (lo3 : 0 ≤ d3.toInt) (hi3 : d3.toInt ≤ 255) (lo4 : 0 ≤ d4.toInt) (hi4 : d4.toInt ≤ 255) (ad0 ad1 : Addr) (cA_ad0 : ClassId) (cA_ad1 : ClassId) (h0 : Heap) (A_ad0 : Arx Z h0 ad0 cA_ad0 .char (2 : Int32) [(.int (nar .char d0)), (.int (nar .char d1))] (.int (0 : Int32)) "[C") (A_ad1 : Arx Z h0 ad1 cA_ad1 .byte (2 : Int32) [(.int (0 : Int32)), (.int (0 : Int32))] (.int (0 : Int32)) "[B") (ne_ad0_ad1 : ad0 ≠ ad1) (g_ad0 : Z.heap.size ≤ ad0) (g_ad1 : Z.heap.size ≤ ad1) (OL : Old Z Z.heap.size h0) :
    Met l Z (⟨"java/lang/StringUTF16", "compress", "([CI[BII)I"⟩ : MethodName) jdk_52_method_21_code 7 (some .int) ({ frames := 0, cells := 0, slots := 0, locals := 0 } : Room) #[(.ref ad0), (.int (0 : Int32)), (.ref ad1), (.int (0 : Int32)), (.int (2 : Int32))] h0 (fun v h' => (¬ ((255 : Int32) < (nar .char d0)) ∧ ¬ ((255 : Int32) < (nar .char d1)) ∧ v = some (.int (2 : Int32)) ∧ Keep h0 h' [ad1] ∧ Arx Z h' ad1 cA_ad1 .byte (2 : Int32) [(.int (nar .byte (((nar .char d0)).toInt8.toInt32))), (.int (nar .byte (((nar .char d1)).toInt8.toInt32)))] (.int (0 : Int32)) "[B")) := by
  refine met_of (Ls := #[.val (.ref ad0), .val (.int (0 : Int32)), .val (.ref ad1), .val (.int (0 : Int32)), .val (.int (2 : Int32)), .unset, .unset]) (plainFor_of_name pn_rb9) (fun m => by first | (simp [entryFrame, mkF, argsToLocals, Value.category]; done) | rfl) (fun p e s m below meth c cx => ?_)
  have KK := Keep.refl h0 [ad1]
  refine g_iconst cx d7_0 (v := (0 : Int32)) rfl ?_
  refine g_istore cx d7_1 (Ls' := #[.val (.ref ad0), .val (.int (0 : Int32)), .val (.ref ad1), .val (.int (0 : Int32)), .val (.int (2 : Int32)), .val (.int (0 : Int32)), .unset]) rfl ?_
  refine g_iload cx d7_3 rfl ?_
  refine g_iload cx d7_5 rfl ?_
  refine g_icmp_ge cx d7_7 (fun q => absurd q (fun q => by revert q; decide)) (fun hc7 => ?_)
  refine g_aloadN cx d7_10 rfl rfl ?_
  refine g_iloadN cx d7_11 rfl ?_
  refine g_caload cx d7_12 A_ad0.1 ⟨by decide, by decide⟩ (v := (.int (nar .char d0))) rfl ?_
  refine g_istore cx d7_13 (Ls' := #[.val (.ref ad0), .val (.int (0 : Int32)), .val (.ref ad1), .val (.int (0 : Int32)), .val (.int (2 : Int32)), .val (.int (0 : Int32)), .val (.int (nar .char d0))]) rfl ?_
  refine g_iload cx d7_15 rfl ?_
  refine g_sipush cx d7_17 (v := (255 : Int32)) rfl ?_
  refine g_icmp_le cx d7_20 (fun hc20 => ?_) (fun q => absurd q (fun q => by have i_q : ((255 : Int32)).toInt < ((nar .char d0)).toInt := Int32.lt_iff_toInt_lt.mp q; have e1 : (255 : Int32).toInt = 255 := rfl; have r3 := rng32 d0; have e2 : (((nar .char d0)).toInt - (d0).toInt) % 65536 = 0 ∧ 0 ≤ ((nar .char d0)).toInt ∧ ((nar .char d0)).toInt < 65536 := c_i2c d0; omega))
  refine g_aloadN cx d7_26 rfl rfl ?_
  refine g_iloadN cx d7_27 rfl ?_
  refine g_iload cx d7_28 rfl ?_
  refine g_i2b cx d7_30 ?_
  refine g_bastore cx d7_31 A_ad1 ⟨by decide, by decide⟩ (Nat.le_of_ble_eq_true rfl) g_ad1 (fun h1 W2 AA3 => ?_)
  have A_ad0 := A_ad0.other W2 ne_ad0_ad1
  have A_ad1 : Arx Z h1 ad1 cA_ad1 .byte (2 : Int32) [(.int (nar .byte (((nar .char d0)).toInt8.toInt32))), (.int (0 : Int32))] (.int (0 : Int32)) "[B" := AA3
  have OL := OL.wr W2 g_ad1
  have KK := KK.wr W2 (Or.inl (List.mem_of_getElem? (i := 0) rfl))
  refine g_iinc cx d7_32 rfl (v := (1 : Int32)) rfl (Ls' := #[.val (.ref ad0), .val (.int (1 : Int32)), .val (.ref ad1), .val (.int (0 : Int32)), .val (.int (2 : Int32)), .val (.int (0 : Int32)), .val (.int (nar .char d0))]) rfl ?_
  refine g_iinc cx d7_35 rfl (v := (1 : Int32)) rfl (Ls' := #[.val (.ref ad0), .val (.int (1 : Int32)), .val (.ref ad1), .val (.int (1 : Int32)), .val (.int (2 : Int32)), .val (.int (0 : Int32)), .val (.int (nar .char d0))]) rfl ?_
  refine g_iinc cx d7_38 rfl (v := (1 : Int32)) rfl (Ls' := #[.val (.ref ad0), .val (.int (1 : Int32)), .val (.ref ad1), .val (.int (1 : Int32)), .val (.int (2 : Int32)), .val (.int (1 : Int32)), .val (.int (nar .char d0))]) rfl ?_
  refine g_goto cx d7_41 ?_
  refine g_iload cx d7_3 rfl ?_
  refine g_iload cx d7_5 rfl ?_
  refine g_icmp_ge cx d7_7 (fun q => absurd q (fun q => by revert q; decide)) (fun hc7x => ?_)
  refine g_aloadN cx d7_10 rfl rfl ?_
  refine g_iloadN cx d7_11 rfl ?_
  refine g_caload cx d7_12 A_ad0.1 ⟨by decide, by decide⟩ (v := (.int (nar .char d1))) rfl ?_
  refine g_istore cx d7_13 (Ls' := #[.val (.ref ad0), .val (.int (1 : Int32)), .val (.ref ad1), .val (.int (1 : Int32)), .val (.int (2 : Int32)), .val (.int (1 : Int32)), .val (.int (nar .char d1))]) rfl ?_
  refine g_iload cx d7_15 rfl ?_
  refine g_sipush cx d7_17 (v := (255 : Int32)) rfl ?_
  refine g_icmp_le cx d7_20 (fun hc20x => ?_) (fun q => absurd q (fun q => by have i_q : ((255 : Int32)).toInt < ((nar .char d1)).toInt := Int32.lt_iff_toInt_lt.mp q; have e1 : (255 : Int32).toInt = 255 := rfl; have r3 := rng32 d1; have e2 : (((nar .char d1)).toInt - (d1).toInt) % 65536 = 0 ∧ 0 ≤ ((nar .char d1)).toInt ∧ ((nar .char d1)).toInt < 65536 := c_i2c d1; omega))
  refine g_aloadN cx d7_26 rfl rfl ?_
  refine g_iloadN cx d7_27 rfl ?_
  refine g_iload cx d7_28 rfl ?_
  refine g_i2b cx d7_30 ?_
  refine g_bastore cx d7_31 A_ad1 ⟨by decide, by decide⟩ (Nat.le_of_ble_eq_true rfl) g_ad1 (fun h4 W5 AA6 => ?_)
  have A_ad0 := A_ad0.other W5 ne_ad0_ad1
  have A_ad1 : Arx Z h4 ad1 cA_ad1 .byte (2 : Int32) [(.int (nar .byte (((nar .char d0)).toInt8.toInt32))), (.int (nar .byte (((nar .char d1)).toInt8.toInt32)))] (.int (0 : Int32)) "[B" := AA6
  have OL := OL.wr W5 g_ad1
  have KK := KK.wr W5 (Or.inl (List.mem_of_getElem? (i := 0) rfl))
  refine g_iinc cx d7_32 rfl (v := (1 : Int32)) rfl (Ls' := #[.val (.ref ad0), .val (.int (2 : Int32)), .val (.ref ad1), .val (.int (1 : Int32)), .val (.int (2 : Int32)), .val (.int (1 : Int32)), .val (.int (nar .char d1))]) rfl ?_
  refine g_iinc cx d7_35 rfl (v := (1 : Int32)) rfl (Ls' := #[.val (.ref ad0), .val (.int (2 : Int32)), .val (.ref ad1), .val (.int (2 : Int32)), .val (.int (2 : Int32)), .val (.int (1 : Int32)), .val (.int (nar .char d1))]) rfl ?_
  refine g_iinc cx d7_38 rfl (v := (1 : Int32)) rfl (Ls' := #[.val (.ref ad0), .val (.int (2 : Int32)), .val (.ref ad1), .val (.int (2 : Int32)), .val (.int (2 : Int32)), .val (.int (2 : Int32)), .val (.int (nar .char d1))]) rfl ?_
  refine g_goto cx d7_41 ?_
  refine g_iload cx d7_3 rfl ?_
  refine g_iload cx d7_5 rfl ?_
  refine g_icmp_ge cx d7_7 (fun hc7xx => ?_) (fun q => absurd q (fun q => by revert q; decide))
  refine g_iload cx d7_44 rfl ?_
  refine g_retI cx d7_46 rfl (by decide) (by decide) ?_
  exact ⟨hc20, hc20x, rfl, KK, A_ad1⟩
theorem pn_rb8 : plainName "java/lang/StringUTF16" = true := by first | (simp [plainName, overriddenIn]; done) | decide +kernel
set_option maxRecDepth 65536 in
set_option maxHeartbeats 40000000 in
theorem rb8 (l : Launch) (Z : State) (a0 : Array Value) (hw : ∀ d ∈ tables_1, d.before a0 Z = true) (cs : Int32) (SCS : Sta Z Z.heap "java/lang/String" "COMPACT_STRINGS" "Z" (.int cs)) (hcs : ¬ cs = (0 : Int32)) (d0 d1 d2 d3 d4 : Int32) (lo0 : 0 ≤ d0.toInt) (hi0 : d0.toInt ≤ 255) (lo1 : 0 ≤ d1.toInt) (hi1 : d1.toInt ≤ 255) (lo2 : 0 ≤ d2.toInt) (hi2 : d2.toInt ≤ 255) (lo3 : 0 ≤ d3.toInt) (hi3 : d3.toInt ≤ 255) (lo4 : 0 ≤ d4.toInt) (hi4 : d4.toInt ≤ 255) (ad0 : Addr) (cA_ad0 : ClassId) (h0 : Heap) (A_ad0 : Arx Z h0 ad0 cA_ad0 .char (2 : Int32) [(.int (nar .char d0)), (.int (nar .char d1))] (.int (0 : Int32)) "[C") (g_ad0 : Z.heap.size ≤ ad0) (OL : Old Z Z.heap.size h0) :
    Met l Z (⟨"java/lang/StringUTF16", "compress", "([CII)[B"⟩ : MethodName) jdk_52_method_16_code 6 (some (.array .byte)) ({ frames := 1, cells := 1, slots := 2, locals := 18 } : Room) #[(.ref ad0), (.int (0 : Int32)), (.int (2 : Int32))] h0 (fun v h' => (∃ (b2 : Addr) (cA3 : ClassId) , ¬ ((255 : Int32) < (nar .char d0)) ∧ ¬ ((255 : Int32) < (nar .char d1)) ∧ v = some (.ref b2) ∧ Keep h0 h' [] ∧ h0.size ≤ b2 ∧ Arx Z h' b2 cA3 .byte (2 : Int32) [(.int (nar .byte (((nar .char d0)).toInt8.toInt32))), (.int (nar .byte (((nar .char d1)).toInt8.toInt32)))] (.int (0 : Int32)) "[B")) := by
  refine met_of (Ls := #[.val (.ref ad0), .val (.int (0 : Int32)), .val (.int (2 : Int32)), .unset, .unset, .unset]) (plainFor_of_name pn_rb8) (fun m => by first | (simp [entryFrame, mkF, argsToLocals, Value.category]; done) | rfl) (fun p e s m below meth c cx => ?_)
  have KK := Keep.refl h0 []
  refine g_iloadN cx d6_0 rfl ?_
  refine g_newarray cx (ad := "[B") (by decide) d6_1 (hw _ (List.mem_of_getElem? (i := 26) rfl)) (by decide) (cap := 2) (by decide) (by decide) (k' := 1) (n' := 2) rfl rfl (by decide) (by decide) (fun h1 b2 cA3 gb4 E5 X6 => ?_)
  have ne_ad0_b2 : ad0 ≠ b2 := Nat.ne_of_lt (by rw [gb4]; exact A_ad0.lt)
  have g_b2 : Z.heap.size ≤ b2 := by rw [gb4]; exact OL.2.1
  have sz_b2 := (by rw [gb4]; exact KK.1 : h0.size ≤ b2)
  have A_ad0 := A_ad0.ext E5
  have OL := OL.ext E5
  have KK := KK.ext E5
  have A_b2 : Arx Z h1 b2 cA3 .byte (2 : Int32) [(.int (0 : Int32)), (.int (0 : Int32))] (.int (0 : Int32)) "[B" := X6.pad (pad_rep [] (.int (0 : Int32)) 2)
  refine g_astoreN cx d6_3 rfl (Ls' := #[.val (.ref ad0), .val (.int (0 : Int32)), .val (.int (2 : Int32)), .val (.ref b2), .unset, .unset]) rfl ?_
  refine g_aloadN cx d6_4 rfl rfl ?_
  refine g_iloadN cx d6_5 rfl ?_
  refine g_aloadN cx d6_6 rfl rfl ?_
  refine g_iconst cx d6_7 (v := (0 : Int32)) rfl ?_
  refine g_iloadN cx d6_8 rfl ?_
  refine g_static cx (y := (⟨"java/lang/StringUTF16", "compress", "([CI[BII)I"⟩ : MethodName)) d6_9 (hw _ (List.mem_of_getElem? (i := 27) rfl)) (hw _ (List.mem_of_getElem? (i := 28) rfl)) (hw _ (List.mem_of_getElem? (i := 24) rfl)) (hw _ (List.mem_of_getElem? (i := 29) rfl)) (by decide) (bytes := jdk_52_method_21_code) (maxL' := 7) (M := (rb9 l Z a0 hw cs SCS hcs d0 d1 d2 d3 d4 lo0 hi0 lo1 hi1 lo2 hi2 lo3 hi3 lo4 hi4 ad0 b2 cA_ad0 cA3 _ A_ad0 A_b2 ne_ad0_b2 g_ad0 g_b2 OL)) rfl (lenOf pd_14 rfl) (by decide) (W := 0) (Nat.le_of_eq rfl) (by decide) (k' := 1) (n' := 2) rfl rfl (by decide) (by decide) (argsL := [(.ref ad0), (.int (0 : Int32)), (.ref b2), (.int (0 : Int32)), (.int (2 : Int32))]) (rest := []) rfl (fun v11 h10 q12 => ?_)
  obtain ⟨hq7, hq8, rfl, K9, A_b2⟩ := q12
  have A_ad0 := A_ad0.keep K9 (ninS ne_ad0_b2 nin0)
  have OL := OL.keep K9 (allS g_b2 all0)
  have KK := KK.trans K9 (allS (P := fun z => z ∈ _ ∨ _ ≤ z) (Or.inr sz_b2) all0)
  refine G.cast (st' := [(.int (2 : Int32))]) ?_ rfl
  refine g_istore cx d6_12 (Ls' := #[.val (.ref ad0), .val (.int (0 : Int32)), .val (.int (2 : Int32)), .val (.ref b2), .val (.int (2 : Int32)), .unset]) rfl ?_
  refine g_iload cx d6_14 rfl ?_
  refine g_iloadN cx d6_16 rfl ?_
  refine g_icmp_eq cx d6_17 (fun hc17 => ?_) (fun q => absurd q (fun q => by revert q; decide))
  refine g_aloadN cx d6_57 rfl rfl ?_
  refine g_retA cx d6_58 (t := (.array .byte)) rfl rfl rfl rfl (by decide) (by decide) ?_
  exact ⟨b2, cA3, hq7, hq8, rfl, KK, sz_b2, A_b2⟩
theorem pn_rb10 : plainName "java/lang/StringUTF16" = true := by first | (simp [plainName, overriddenIn]; done) | decide +kernel
set_option maxRecDepth 65536 in
set_option maxHeartbeats 40000000 in
theorem rb10 (l : Launch) (Z : State) (a0 : Array Value) (hw : ∀ d ∈ tables_1, d.before a0 Z = true) (cs : Int32) (SCS : Sta Z Z.heap "java/lang/String" "COMPACT_STRINGS" "Z" (.int cs)) (hcs : ¬ cs = (0 : Int32)) (d0 d1 d2 d3 d4 : Int32) (lo0 : 0 ≤ d0.toInt) (hi0 : d0.toInt ≤ 255) (lo1 : 0 ≤ d1.toInt) (hi1 : d1.toInt ≤ 255) (lo2 : 0 ≤ d2.toInt) (hi2 : d2.toInt ≤ 255) (lo3 : 0 ≤ d3.toInt) (hi3 : d3.toInt ≤ 255) (lo4 : 0 ≤ d4.toInt) (hi4 : d4.toInt ≤ 255) (ad0 : Addr) (cA_ad0 : ClassId) (h0 : Heap) (A_ad0 : Arx Z h0 ad0 cA_ad0 .byte (2 : Int32) [(.int (nar .byte (((nar .char d0)).toInt8.toInt32))), (.int (nar .byte (((nar .char d1)).toInt8.toInt32)))] (.int (0 : Int32)) "[B") (g_ad0 : Z.heap.size ≤ ad0) (OL : Old Z Z.heap.size h0) :
    Met l Z (⟨"java/lang/StringUTF16", "coderFromArrayLen", "([BI)B"⟩ : MethodName) jdk_52_method_15_code 2 (some .byte) ({ frames := 0, cells := 0, slots := 0, locals := 0 } : Room) #[(.ref ad0), (.int (2 : Int32))] h0 (fun v h' => (v = some (.int (0 : Int32)) ∧ h0 = h')) := by
  refine met_of (Ls := #[.val (.ref ad0), .val (.int (2 : Int32))]) (plainFor_of_name pn_rb10) (fun m => by first | (simp [entryFrame, mkF, argsToLocals, Value.category]; done) | rfl) (fun p e s m below meth c cx => ?_)
  have KK := Keep.refl h0 []
  refine g_iloadN cx d8_0 rfl ?_
  refine g_aloadN cx d8_1 rfl rfl ?_
  refine g_arraylength cx d8_2 A_ad0.1 ?_
  refine g_isub cx d8_3 ?_
  refine G.cast (st' := [(.int (0 : Int32))]) ?_ rfl
  refine g_bipush cx d8_4 (v := (31 : Int32)) rfl ?_
  refine g_iushr cx d8_6 ?_
  refine G.cast (st' := [(.int (0 : Int32))]) ?_ rfl
  refine g_i2b cx d8_7 ?_
  refine G.cast (st' := [(.int (0 : Int32))]) ?_ rfl
  refine g_retN cx d8_8 (t := .byte) rfl (by simp) (by decide) (by decide) ?_
  exact ⟨rfl, rfl⟩
theorem pn_rb7 : plainName "java/lang/String" = true := by first | (simp [plainName, overriddenIn]; done) | decide +kernel
set_option maxRecDepth 65536 in
set_option maxHeartbeats 40000000 in
theorem rb7 (l : Launch) (Z : State) (a0 : Array Value) (hw : ∀ d ∈ tables_1, d.before a0 Z = true) (cs : Int32) (SCS : Sta Z Z.heap "java/lang/String" "COMPACT_STRINGS" "Z" (.int cs)) (hcs : ¬ cs = (0 : Int32)) (d0 d1 d2 d3 d4 : Int32) (lo0 : 0 ≤ d0.toInt) (hi0 : d0.toInt ≤ 255) (lo1 : 0 ≤ d1.toInt) (hi1 : d1.toInt ≤ 255) (lo2 : 0 ≤ d2.toInt) (hi2 : d2.toInt ≤ 255) (lo3 : 0 ≤ d3.toInt) (hi3 : d3.toInt ≤ 255) (lo4 : 0 ≤ d4.toInt) (hi4 : d4.toInt ≤ 255) (ad0 ad1 : Addr) (cA_ad1 : ClassId) (h0 : Heap) (O_ad0 : ObT Z h0 ad0 (.int (0 : Int32)) .null) (A_ad1 : Arx Z h0 ad1 cA_ad1 .char (2 : Int32) [(.int (nar .char d0)), (.int (nar .char d1))] (.int (0 : Int32)) "[C") (ne_ad0_ad1 : ad0 ≠ ad1) (g_ad0 : Z.heap.size ≤ ad0) (g_ad1 : Z.heap.size ≤ ad1) (OL : Old Z Z.heap.size h0) :
    Met l Z (⟨"java/lang/String", "<init>", "([CIILjava/lang/Void;)V"⟩ : MethodName) jdk_42_method_149_code 6 none ({ frames := 2, cells := 1, slots := 2, locals := 35 } : Room) #[(.ref ad0), (.ref ad1), (.int (0 : Int32)), (.int (2 : Int32)), .null] h0 (fun v h' => (∃ (b1 : Addr) (cA2 : ClassId) , ¬ (cs = (0 : Int32)) ∧ ¬ ((255 : Int32) < (nar .char d0)) ∧ ¬ ((255 : Int32) < (nar .char d1)) ∧ v = none ∧ Keep h0 h' [ad0] ∧ h0.size ≤ b1 ∧ Arx Z h' b1 cA2 .byte (2 : Int32) [(.int (nar .byte (((nar .char d0)).toInt8.toInt32))), (.int (nar .byte (((nar .char d1)).toInt8.toInt32)))] (.int (0 : Int32)) "[B" ∧ ObT Z h' ad0 (.int (0 : Int32)) (.ref b1))) := by
  refine met_of (Ls := #[.val (.ref ad0), .val (.ref ad1), .val (.int (0 : Int32)), .val (.int (2 : Int32)), .val .null, .unset]) (plainFor_of_name pn_rb7) (fun m => by first | (simp [entryFrame, mkF, argsToLocals, Value.category]; done) | rfl) (fun p e s m below meth c cx => ?_)
  have KK := Keep.refl h0 [ad0]
  refine g_aloadN cx d4_0 rfl rfl ?_
  refine g_initO cx d4_1 (hw _ (List.mem_of_getElem? (i := 18) rfl)) (hw _ (List.mem_of_getElem? (i := 19) rfl)) (hw _ (List.mem_of_getElem? (i := 20) rfl)) rfl (by decide) (W := 0) (Nat.le_of_eq rfl) (by decide) ?_
  refine g_iloadN cx d4_4 rfl ?_
  refine g_if_ne cx d4_5 (fun hc5 => ?_) (fun q => absurd q (fun q => by revert q; decide))
  refine g_getS cx d4_27 (host := "") (Or.inl (hw _ (List.mem_of_getElem? (i := 21) rfl))) Via.refl (SCS.ext OL.2) ?_
  refine g_if_eq cx d4_30 (fun q => absurd q (fun q => hcs q)) (fun hc30 => ?_)
  refine g_aloadN cx d4_33 rfl rfl ?_
  refine g_iloadN cx d4_34 rfl ?_
  refine g_iloadN cx d4_35 rfl ?_
  refine g_static cx (y := (⟨"java/lang/StringUTF16", "compress", "([CII)[B"⟩ : MethodName)) d4_36 (hw _ (List.mem_of_getElem? (i := 22) rfl)) (hw _ (List.mem_of_getElem? (i := 23) rfl)) (hw _ (List.mem_of_getElem? (i := 24) rfl)) (hw _ (List.mem_of_getElem? (i := 25) rfl)) (by decide) (bytes := jdk_52_method_16_code) (maxL' := 6) (M := (rb8 l Z a0 hw cs SCS hcs d0 d1 d2 d3 d4 lo0 hi0 lo1 hi1 lo2 hi2 lo3 hi3 lo4 hi4 ad1 cA_ad1 _ A_ad1 g_ad1 OL)) rfl (lenOf pd_15 rfl) (by decide) (W := 0) (Nat.le_of_eq rfl) (by decide) (k' := 1) (n' := 2) rfl rfl (by decide) (by decide) (argsL := [(.ref ad1), (.int (0 : Int32)), (.int (2 : Int32))]) (rest := []) rfl (fun v7 h6 q8 => ?_)
  obtain ⟨b1, cA2, hq3, hq4, rfl, K5, sq_b1, A_b1⟩ := q8
  have ne_ad0_b1 : ad0 ≠ b1 := Nat.ne_of_lt (Nat.lt_of_lt_of_le O_ad0.lt sq_b1)
  have ne_ad1_b1 : ad1 ≠ b1 := Nat.ne_of_lt (Nat.lt_of_lt_of_le A_ad1.lt sq_b1)
  have g_b1 : Z.heap.size ≤ b1 := Nat.le_trans OL.2.1 sq_b1
  have sz_b1 := Nat.le_trans KK.1 sq_b1
  have O_ad0 := O_ad0.keep K5 nin0
  have A_ad1 := A_ad1.keep K5 nin0
  have OL := OL.keep K5 all0
  have KK := KK.trans K5 all0
  refine G.cast (st' := [(.ref b1)]) ?_ rfl
  refine g_astore cx d4_39 rfl (Ls' := #[.val (.ref ad0), .val (.ref ad1), .val (.int (0 : Int32)), .val (.int (2 : Int32)), .val .null, .val (.ref b1)]) rfl ?_
  refine g_aloadN cx d4_41 rfl rfl ?_
  refine g_aload cx d4_42 rfl rfl ?_
  refine g_iloadN cx d4_44 rfl ?_
  refine g_static cx (y := (⟨"java/lang/StringUTF16", "coderFromArrayLen", "([BI)B"⟩ : MethodName)) d4_45 (hw _ (List.mem_of_getElem? (i := 30) rfl)) (hw _ (List.mem_of_getElem? (i := 31) rfl)) (hw _ (List.mem_of_getElem? (i := 24) rfl)) (hw _ (List.mem_of_getElem? (i := 32) rfl)) (by decide) (bytes := jdk_52_method_15_code) (maxL' := 2) (M := (rb10 l Z a0 hw cs SCS hcs d0 d1 d2 d3 d4 lo0 hi0 lo1 hi1 lo2 hi2 lo3 hi3 lo4 hi4 b1 cA2 _ A_b1 g_b1 OL)) rfl (lenOf pd_16 rfl) (by decide) (W := 1) (Nat.le_of_eq rfl) (by decide) (k' := 1) (n' := 2) rfl rfl (by decide) (by decide) (argsL := [(.ref b1), (.int (2 : Int32))]) (rest := [(.ref ad0)]) rfl (fun v11 h10 q12 => ?_)
  obtain ⟨rfl, rfl⟩ := q12
  refine G.cast (st' := [(.int (0 : Int32)), (.ref ad0)]) ?_ rfl
  refine g_putFN cx d4_48 (hw _ (List.mem_of_getElem? (i := 33) rfl)) Via.refl O_ad0.2.1 O_ad0.1 (Or.inr ⟨(hw _ (List.mem_of_getElem? (i := 34) rfl)), rfl, rfl⟩) (hw _ (List.mem_of_getElem? (i := 9) rfl)) (ty := .byte) (v' := (.int (0 : Int32))) (by decide) rfl rfl g_ad0 (fun h13 W14 => ?_)
  have O_ad0 := O_ad0.put1 hw W14
  have A_ad1 := A_ad1.other W14 (Ne.symm ne_ad0_ad1)
  have A_b1 := A_b1.other W14 (Ne.symm ne_ad0_b1)
  have OL := OL.wr W14 g_ad0
  have KK := KK.wr W14 (Or.inl (List.mem_of_getElem? (i := 0) rfl))
  refine g_aloadN cx d4_51 rfl rfl ?_
  refine g_aload cx d4_52 rfl rfl ?_
  refine g_putF cx d4_54 (host := "") (Or.inl (hw _ (List.mem_of_getElem? (i := 35) rfl))) Via.refl O_ad0.2.2 O_ad0.1 (Or.inr ⟨(hw _ (List.mem_of_getElem? (i := 36) rfl)), rfl, rfl⟩) (hw _ (List.mem_of_getElem? (i := 9) rfl)) (ty := (.array .byte)) (by decide) rfl rfl g_ad0 (fun h15 W16 => ?_)
  have O_ad0 := O_ad0.put2 hw W16
  have A_ad1 := A_ad1.other W16 (Ne.symm ne_ad0_ad1)
  have A_b1 := A_b1.other W16 (Ne.symm ne_ad0_b1)
  have OL := OL.wr W16 g_ad0
  have KK := KK.wr W16 (Or.inl (List.mem_of_getElem? (i := 0) rfl))
  refine g_retV cx d4_57 rfl (by decide) (by decide) ?_
  exact ⟨b1, cA2, hc30, hq3, hq4, rfl, KK, sz_b1, A_b1, O_ad0⟩
theorem pn_rb6 : plainName "java/lang/String" = true := by first | (simp [plainName, overriddenIn]; done) | decide +kernel
set_option maxRecDepth 65536 in
set_option maxHeartbeats 40000000 in
theorem rb6 (l : Launch) (Z : State) (a0 : Array Value) (hw : ∀ d ∈ tables_1, d.before a0 Z = true) (cs : Int32) (SCS : Sta Z Z.heap "java/lang/String" "COMPACT_STRINGS" "Z" (.int cs)) (hcs : ¬ cs = (0 : Int32)) (d0 d1 d2 d3 d4 : Int32) (lo0 : 0 ≤ d0.toInt) (hi0 : d0.toInt ≤ 255) (lo1 : 0 ≤ d1.toInt) (hi1 : d1.toInt ≤ 255) (lo2 : 0 ≤ d2.toInt) (hi2 : d2.toInt ≤ 255) (lo3 : 0 ≤ d3.toInt) (hi3 : d3.toInt ≤ 255) (lo4 : 0 ≤ d4.toInt) (hi4 : d4.toInt ≤ 255) (ad0 ad1 : Addr) (cA_ad1 : ClassId) (h0 : Heap) (O_ad0 : ObT Z h0 ad0 (.int (0 : Int32)) .null) (A_ad1 : Arx Z h0 ad1 cA_ad1 .char (2 : Int32) [(.int (nar .char d0)), (.int (nar .char d1))] (.int (0 : Int32)) "[C") (ne_ad0_ad1 : ad0 ≠ ad1) (g_ad0 : Z.heap.size ≤ ad0) (g_ad1 : Z.heap.size ≤ ad1) (OL : Old Z Z.heap.size h0) :
    Met l Z (⟨"java/lang/String", "<init>", "([C)V"⟩ : MethodName) jdk_42_method_3_code 2 none ({ frames := 3, cells := 1, slots := 2, locals := 52 } : Room) #[(.ref ad0), (.ref ad1)] h0 (fun v h' => (∃ (b1 : Addr) (cA2 : ClassId) , ¬ (cs = (0 : Int32)) ∧ ¬ ((255 : Int32) < (nar .char d0)) ∧ ¬ ((255 : Int32) < (nar .char d1)) ∧ v = none ∧ Keep h0 h' [ad0] ∧ h0.size ≤ b1 ∧ Arx Z h' b1 cA2 .byte (2 : Int32) [(.int (nar .byte (((nar .char d0)).toInt8.toInt32))), (.int (nar .byte (((nar .char d1)).toInt8.toInt32)))] (.int (0 : Int32)) "[B" ∧ ObT Z h' ad0 (.int (0 : Int32)) (.ref b1))) := by
  refine met_of (Ls := #[.val (.ref ad0), .val (.ref ad1)]) (plainFor_of_name pn_rb6) (fun m => by first | (simp [entryFrame, mkF, argsToLocals, Value.category]; done) | rfl) (fun p e s m below meth c cx => ?_)
  have KK := Keep.refl h0 [ad0]
  refine g_aloadN cx d3_0 rfl rfl ?_
  refine g_aloadN cx d3_1 rfl rfl ?_
  refine g_iconst cx d3_2 (v := (0 : Int32)) rfl ?_
  refine g_aloadN cx d3_3 rfl rfl ?_
  refine g_arraylength cx d3_4 A_ad1.1 ?_
  refine g_aconst_null cx d3_5 ?_
  have lt_ad0 := O_ad0.lt
  refine g_special cx (y := (⟨"java/lang/String", "<init>", "([CIILjava/lang/Void;)V"⟩ : MethodName)) (a := ad0) d3_6 rfl rfl (hw _ (List.mem_of_getElem? (i := 14) rfl)) (hw _ (List.mem_of_getElem? (i := 15) rfl)) (hw _ (List.mem_of_getElem? (i := 10) rfl)) (hw _ (List.mem_of_getElem? (i := 17) rfl)) (by decide) (bytes := jdk_42_method_149_code) (maxL' := 6) (M := (rb7 l Z a0 hw cs SCS hcs d0 d1 d2 d3 d4 lo0 hi0 lo1 hi1 lo2 hi2 lo3 hi3 lo4 hi4 ad0 ad1 cA_ad1 _ O_ad0 A_ad1 ne_ad0_ad1 g_ad0 g_ad1 OL)) rfl (lenOf pd_17 rfl) (by decide) (W := 0) (Nat.le_of_eq rfl) (by decide) (k' := 1) (n' := 2) rfl rfl (by decide) (by decide) (argsL := [(.ref ad1), (.int (0 : Int32)), (.int (2 : Int32)), .null]) (rest := []) rfl (fun v8 h7 q9 => ?_)
  obtain ⟨b1, cA2, hq3, hq4, hq5, rfl, K6, sq_b1, A_b1, O_ad0⟩ := q9
  have ne_ad0_b1 : ad0 ≠ b1 := Nat.ne_of_lt (Nat.lt_of_lt_of_le lt_ad0 sq_b1)
  have ne_ad1_b1 : ad1 ≠ b1 := Nat.ne_of_lt (Nat.lt_of_lt_of_le A_ad1.lt sq_b1)
  have g_b1 : Z.heap.size ≤ b1 := Nat.le_trans OL.2.1 sq_b1
  have sz_b1 := Nat.le_trans KK.1 sq_b1
  have A_ad1 := A_ad1.keep K6 (ninS (Ne.symm ne_ad0_ad1) nin0)
  have OL := OL.keep K6 (allS g_ad0 all0)
  have KK := KK.trans K6 (allS (P := fun z => z ∈ _ ∨ _ ≤ z) (Or.inl (List.mem_of_getElem? (i := 0) rfl)) all0)
  refine G.cast (st' := []) ?_ rfl
  refine g_retV cx d3_9 rfl (by decide) (by decide) ?_
  exact ⟨b1, cA2, hq3, hq4, hq5, rfl, KK, sz_b1, A_b1, O_ad0⟩
theorem d2_40 : Dc method_4_code 40 (.invokespecial 38) 3 43 := ⟨by decide +kernel, rfl⟩
theorem d2_43 : Dc method_4_code 43 (.areturn) 1 44 := ⟨by decide +kernel, rfl⟩
theorem pn_rmbu2 : plainName "com/example/crisp_typedef/crisptypedef/SignificandIsZeroPinLaw" = true := by first | (simp [plainName, overriddenIn]; done) | decide +kernel
set_option maxRecDepth 65536 in
set_option maxHeartbeats 40000000 in
theorem rmbu2 (l : Launch) (Z : State) (a0 : Array Value) (hw : ∀ d ∈ tables_1, d.before a0 Z = true) (cs : Int32) (SCS : Sta Z Z.heap "java/lang/String" "COMPACT_STRINGS" "Z" (.int cs)) (hcs : ¬ cs = (0 : Int32)) (d0 d1 d2 d3 d4 : Int32) (lo0 : 0 ≤ d0.toInt) (hi0 : d0.toInt ≤ 255) (lo1 : 0 ≤ d1.toInt) (hi1 : d1.toInt ≤ 255) (lo2 : 0 ≤ d2.toInt) (hi2 : d2.toInt ≤ 255) (lo3 : 0 ≤ d3.toInt) (hi3 : d3.toInt ≤ 255) (lo4 : 0 ≤ d4.toInt) (hi4 : d4.toInt ≤ 255) (h0 : Heap) (OL : Old Z Z.heap.size h0) :
    Met l Z (⟨"com/example/crisp_typedef/crisptypedef/SignificandIsZeroPinLaw", "build", "(ICCCCC)Ljava/lang/String;"⟩ : MethodName) method_4_code 6 (some (.object "java/lang/String")) ({ frames := 4, cells := 3, slots := 8, locals := 66 } : Room) #[(.int (2 : Int32)), (.int d0), (.int d1), (.int d2), (.int d3), (.int d4)] h0 (fun v h' => ∃ tx : Addr, v = some (.ref tx) ∧ Keep h0 h' [] ∧ h0.size ≤ tx ∧ own_T Z h' h'.size tx (2 : Int32) (own_ch d0 d1 d2 d3 d4)) := by
  refine met_of (Ls := #[.val (.int (2 : Int32)), .val (.int d0), .val (.int d1), .val (.int d2), .val (.int d3), .val (.int d4)]) (plainFor_of_name pn_rmbu2) (fun m => by first | (simp [entryFrame, mkF, argsToLocals, Value.category]; done) | rfl) (fun p e s m below meth c cx => ?_)
  have KK := Keep.refl h0 []
  refine g_iloadN cx d2_0 rfl ?_
  refine g_iconst cx d2_1 (v := (1 : Int32)) rfl ?_
  refine g_icmp_ne cx d2_2 (fun hc2 => ?_) (fun q => absurd q (fun q => by revert q; decide))
  refine g_iloadN cx d2_20 rfl ?_
  refine g_iconst cx d2_21 (v := (2 : Int32)) rfl ?_
  refine g_icmp_ne cx d2_22 (fun q => absurd q (fun q => by revert q; decide)) (fun hc22 => ?_)
  refine g_new cx d2_25 (hw _ (List.mem_of_getElem? (i := 8) rfl)) (hw _ (List.mem_of_getElem? (i := 9) rfl)) (hw _ (List.mem_of_getElem? (i := 10) rfl)) (k' := 1) (n' := 4) rfl rfl (by decide) (by decide) (fun h1 b2 gb3 E4 X5 D6 => ?_)
  have g_b2 : Z.heap.size ≤ b2 := by rw [gb3]; exact OL.2.1
  have sz_b2 := (by rw [gb3]; exact KK.1 : h0.size ≤ b2)
  have OL := OL.ext E4
  have KK := KK.ext E4
  have O_b2 := ObT.new hw X5 D6
  refine g_dup cx d2_28 rfl ?_
  refine g_iconst cx d2_29 (v := (2 : Int32)) rfl ?_
  refine g_newarray cx (ad := "[C") (by decide) d2_30 (hw _ (List.mem_of_getElem? (i := 4) rfl)) (by decide) (cap := 2) (by decide) (by decide) (k' := 2) (n' := 6) rfl rfl (by decide) (by decide) (fun h7 b8 cA9 gb10 E11 X12 => ?_)
  have ne_b2_b8 : b2 ≠ b8 := Nat.ne_of_lt (by rw [gb10]; exact O_b2.lt)
  have g_b8 : Z.heap.size ≤ b8 := by rw [gb10]; exact OL.2.1
  have sz_b8 := (by rw [gb10]; exact KK.1 : h0.size ≤ b8)
  have O_b2 := O_b2.ext E11
  have OL := OL.ext E11
  have KK := KK.ext E11
  have A_b8 : Arx Z h7 b8 cA9 .char (2 : Int32) [(.int (0 : Int32)), (.int (0 : Int32))] (.int (0 : Int32)) "[C" := X12.pad (pad_rep [] (.int (0 : Int32)) 2)
  refine g_dup cx d2_32 rfl ?_
  refine g_iconst cx d2_33 (v := (0 : Int32)) rfl ?_
  refine g_iloadN cx d2_34 rfl ?_
  refine g_castore cx d2_35 A_b8 ⟨by decide, by decide⟩ (Nat.le_of_ble_eq_true rfl) g_b8 (fun h13 W14 AA15 => ?_)
  have O_b2 := O_b2.oth W14 ne_b2_b8
  have A_b8 : Arx Z h13 b8 cA9 .char (2 : Int32) [(.int (nar .char d0)), (.int (0 : Int32))] (.int (0 : Int32)) "[C" := AA15
  have OL := OL.wr W14 g_b8
  have KK := KK.wr W14 (Or.inr sz_b8)
  refine g_dup cx d2_36 rfl ?_
  refine g_iconst cx d2_37 (v := (1 : Int32)) rfl ?_
  refine g_iloadN cx d2_38 rfl ?_
  refine g_castore cx d2_39 A_b8 ⟨by decide, by decide⟩ (Nat.le_of_ble_eq_true rfl) g_b8 (fun h16 W17 AA18 => ?_)
  have O_b2 := O_b2.oth W17 ne_b2_b8
  have A_b8 : Arx Z h16 b8 cA9 .char (2 : Int32) [(.int (nar .char d0)), (.int (nar .char d1))] (.int (0 : Int32)) "[C" := AA18
  have OL := OL.wr W17 g_b8
  have KK := KK.wr W17 (Or.inr sz_b8)
  have lt_b2 := O_b2.lt
  refine g_special cx (y := (⟨"java/lang/String", "<init>", "([C)V"⟩ : MethodName)) (a := b2) d2_40 rfl rfl (hw _ (List.mem_of_getElem? (i := 11) rfl)) (hw _ (List.mem_of_getElem? (i := 12) rfl)) (hw _ (List.mem_of_getElem? (i := 10) rfl)) (hw _ (List.mem_of_getElem? (i := 13) rfl)) (by decide) (bytes := jdk_42_method_3_code) (maxL' := 2) (M := (rb6 l Z a0 hw cs SCS hcs d0 d1 d2 d3 d4 lo0 hi0 lo1 hi1 lo2 hi2 lo3 hi3 lo4 hi4 b2 b8 cA9 _ O_b2 A_b8 ne_b2_b8 g_b2 g_b8 OL)) rfl (lenOf pd_18 rfl) (by decide) (W := 1) (Nat.le_of_eq rfl) (by decide) (k' := 3) (n' := 8) rfl rfl (by decide) (by decide) (argsL := [(.ref b8)]) (rest := [(.ref b2)]) rfl (fun v26 h25 q27 => ?_)
  obtain ⟨b19, cA20, hq21, hq22, hq23, rfl, K24, sq_b19, A_b19, O_b2⟩ := q27
  have ne_b2_b19 : b2 ≠ b19 := Nat.ne_of_lt (Nat.lt_of_lt_of_le lt_b2 sq_b19)
  have ne_b8_b19 : b8 ≠ b19 := Nat.ne_of_lt (Nat.lt_of_lt_of_le A_b8.lt sq_b19)
  have g_b19 : Z.heap.size ≤ b19 := Nat.le_trans OL.2.1 sq_b19
  have sz_b19 := Nat.le_trans KK.1 sq_b19
  have A_b8 := A_b8.keep K24 (ninS (Ne.symm ne_b2_b8) nin0)
  have OL := OL.keep K24 (allS g_b2 all0)
  have KK := KK.trans K24 (allS (P := fun z => z ∈ _ ∨ _ ≤ z) (Or.inr sz_b2) all0)
  refine G.cast (st' := [(.ref b2)]) ?_ rfl
  refine g_retA cx d2_43 (t := (.object "java/lang/String")) rfl rfl rfl rfl (by decide) (by decide) ?_
  have q0 : ((nar .byte (((nar .char d0)).toInt8.toInt32)) &&& (255 : Int32)) = d0 := Int32.toInt_inj.mp (by
    have r5 := rng32 d0
    have e4 : (((nar .char d0)).toInt - (d0).toInt) % 65536 = 0 ∧ 0 ≤ ((nar .char d0)).toInt ∧ ((nar .char d0)).toInt < 65536 := c_i2c d0
    have e3 := c_i2b (nar .char d0)
    have e2 : (((nar .byte (((nar .char d0)).toInt8.toInt32))).toInt - ((((nar .char d0)).toInt8.toInt32)).toInt) % 256 = 0 ∧ -128 ≤ ((nar .byte (((nar .char d0)).toInt8.toInt32))).toInt ∧ ((nar .byte (((nar .char d0)).toInt8.toInt32))).toInt < 128 := c_i2b (((nar .char d0)).toInt8.toInt32)
    have e1 : (((nar .byte (((nar .char d0)).toInt8.toInt32)) &&& (255 : Int32))).toInt = ((nar .byte (((nar .char d0)).toInt8.toInt32))).toInt % 256 := c_mask (nar .byte (((nar .char d0)).toInt8.toInt32)) (255 : Int32) 8 (by decide) (by decide)
    omega)
  have q1 : ((nar .byte (((nar .char d1)).toInt8.toInt32)) &&& (255 : Int32)) = d1 := Int32.toInt_inj.mp (by
    have r5 := rng32 d1
    have e4 : (((nar .char d1)).toInt - (d1).toInt) % 65536 = 0 ∧ 0 ≤ ((nar .char d1)).toInt ∧ ((nar .char d1)).toInt < 65536 := c_i2c d1
    have e3 := c_i2b (nar .char d1)
    have e2 : (((nar .byte (((nar .char d1)).toInt8.toInt32))).toInt - ((((nar .char d1)).toInt8.toInt32)).toInt) % 256 = 0 ∧ -128 ≤ ((nar .byte (((nar .char d1)).toInt8.toInt32))).toInt ∧ ((nar .byte (((nar .char d1)).toInt8.toInt32))).toInt < 128 := c_i2b (((nar .char d1)).toInt8.toInt32)
    have e1 : (((nar .byte (((nar .char d1)).toInt8.toInt32)) &&& (255 : Int32))).toInt = ((nar .byte (((nar .char d1)).toInt8.toInt32))).toInt % 256 := c_mask (nar .byte (((nar .char d1)).toInt8.toInt32)) (255 : Int32) 8 (by decide) (by decide)
    omega)
  refine ⟨b2, rfl, KK, sz_b2, b19, cA20, own_ch (nar .byte (((nar .char d0)).toInt8.toInt32)) (nar .byte (((nar .char d1)).toInt8.toInt32)) (0 : Int32) (0 : Int32) (0 : Int32), O_b2.lt, A_b19.lt, Nat.le_refl _, by decide, by decide, O_b2, A_b19, fun j hj => ?_⟩
  have hj : j < 2 := hj
  match j, hj with
  | 0, _ => exact ⟨q0, lo0, hi0⟩
  | 1, _ => exact ⟨q1, lo1, hi1⟩
theorem d2_44 : Dc method_4_code 44 (.iload_n 0) 1 45 := ⟨by decide +kernel, rfl⟩
theorem d2_45 : Dc method_4_code 45 (.iconst 3) 1 46 := ⟨by decide +kernel, rfl⟩
theorem d2_46 : Bi method_4_code 46 (Instr.if_icmp .ne) 72 49 := ⟨26, by decide +kernel, by decide, by decide, rfl⟩
theorem d2_49 : Dc method_4_code 49 (.new 36) 3 52 := ⟨by decide +kernel, rfl⟩
theorem d2_52 : Dc method_4_code 52 (.dup) 1 53 := ⟨by decide +kernel, rfl⟩
theorem d2_53 : Dc method_4_code 53 (.iconst 3) 1 54 := ⟨by decide +kernel, rfl⟩
theorem d2_54 : Dc method_4_code 54 (.newarray .char) 2 56 := ⟨by decide +kernel, rfl⟩
theorem d2_56 : Dc method_4_code 56 (.dup) 1 57 := ⟨by decide +kernel, rfl⟩
theorem d2_57 : Dc method_4_code 57 (.iconst 0) 1 58 := ⟨by decide +kernel, rfl⟩
theorem d2_58 : Dc method_4_code 58 (.iload_n 1) 1 59 := ⟨by decide +kernel, rfl⟩
theorem d2_59 : Dc method_4_code 59 (.castore) 1 60 := ⟨by decide +kernel, rfl⟩
theorem d2_60 : Dc method_4_code 60 (.dup) 1 61 := ⟨by decide +kernel, rfl⟩
theorem d2_61 : Dc method_4_code 61 (.iconst 1) 1 62 := ⟨by decide +kernel, rfl⟩
theorem d2_62 : Dc method_4_code 62 (.iload_n 2) 1 63 := ⟨by decide +kernel, rfl⟩
theorem d2_63 : Dc method_4_code 63 (.castore) 1 64 := ⟨by decide +kernel, rfl⟩
theorem d2_64 : Dc method_4_code 64 (.dup) 1 65 := ⟨by decide +kernel, rfl⟩
theorem d2_65 : Dc method_4_code 65 (.iconst 2) 1 66 := ⟨by decide +kernel, rfl⟩
theorem d2_66 : Dc method_4_code 66 (.iload_n 3) 1 67 := ⟨by decide +kernel, rfl⟩
theorem d2_67 : Dc method_4_code 67 (.castore) 1 68 := ⟨by decide +kernel, rfl⟩
theorem pn_rb14 : plainName "java/lang/StringUTF16" = true := by first | (simp [plainName, overriddenIn]; done) | decide +kernel
set_option maxRecDepth 65536 in
set_option maxHeartbeats 40000000 in
theorem rb14 (l : Launch) (Z : State) (a0 : Array Value) (hw : ∀ d ∈ tables_1, d.before a0 Z = true) (cs : Int32) (SCS : Sta Z Z.heap "java/lang/String" "COMPACT_STRINGS" "Z" (.int cs)) (hcs : ¬ cs = (0 : Int32)) (d0 d1 d2 d3 d4 : Int32) (lo0 : 0 ≤ d0.toInt) (hi0 : d0.toInt ≤ 255) (lo1 : 0 ≤ d1.toInt) (hi1 : d1.toInt ≤ 255) (lo2 : 0 ≤ d2.toInt) (hi2 : d2.toInt ≤ 255) (lo3 : 0 ≤ d3.toInt) (hi3 : d3.toInt ≤ 255) (lo4 : 0 ≤ d4.toInt) (hi4 : d4.toInt ≤ 255) (ad0 ad1 : Addr) (cA_ad0 : ClassId) (cA_ad1 : ClassId) (h0 : Heap) (A_ad0 : Arx Z h0 ad0 cA_ad0 .char (3 : Int32) [(.int (nar .char d0)), (.int (nar .char d1)), (.int (nar .char d2))] (.int (0 : Int32)) "[C") (A_ad1 : Arx Z h0 ad1 cA_ad1 .byte (3 : Int32) [(.int (0 : Int32)), (.int (0 : Int32)), (.int (0 : Int32))] (.int (0 : Int32)) "[B") (ne_ad0_ad1 : ad0 ≠ ad1) (g_ad0 : Z.heap.size ≤ ad0) (g_ad1 : Z.heap.size ≤ ad1) (OL : Old Z Z.heap.size h0) :
    Met l Z (⟨"java/lang/StringUTF16", "compress", "([CI[BII)I"⟩ : MethodName) jdk_52_method_21_code 7 (some .int) ({ frames := 0, cells := 0, slots := 0, locals := 0 } : Room) #[(.ref ad0), (.int (0 : Int32)), (.ref ad1), (.int (0 : Int32)), (.int (3 : Int32))] h0 (fun v h' => (¬ ((255 : Int32) < (nar .char d0)) ∧ ¬ ((255 : Int32) < (nar .char d1)) ∧ ¬ ((255 : Int32) < (nar .char d2)) ∧ v = some (.int (3 : Int32)) ∧ Keep h0 h' [ad1] ∧ Arx Z h' ad1 cA_ad1 .byte (3 : Int32) [(.int (nar .byte (((nar .char d0)).toInt8.toInt32))), (.int (nar .byte (((nar .char d1)).toInt8.toInt32))), (.int (nar .byte (((nar .char d2)).toInt8.toInt32)))] (.int (0 : Int32)) "[B")) := by
  refine met_of (Ls := #[.val (.ref ad0), .val (.int (0 : Int32)), .val (.ref ad1), .val (.int (0 : Int32)), .val (.int (3 : Int32)), .unset, .unset]) (plainFor_of_name pn_rb14) (fun m => by first | (simp [entryFrame, mkF, argsToLocals, Value.category]; done) | rfl) (fun p e s m below meth c cx => ?_)
  have KK := Keep.refl h0 [ad1]
  refine g_iconst cx d7_0 (v := (0 : Int32)) rfl ?_
  refine g_istore cx d7_1 (Ls' := #[.val (.ref ad0), .val (.int (0 : Int32)), .val (.ref ad1), .val (.int (0 : Int32)), .val (.int (3 : Int32)), .val (.int (0 : Int32)), .unset]) rfl ?_
  refine g_iload cx d7_3 rfl ?_
  refine g_iload cx d7_5 rfl ?_
  refine g_icmp_ge cx d7_7 (fun q => absurd q (fun q => by revert q; decide)) (fun hc7 => ?_)
  refine g_aloadN cx d7_10 rfl rfl ?_
  refine g_iloadN cx d7_11 rfl ?_
  refine g_caload cx d7_12 A_ad0.1 ⟨by decide, by decide⟩ (v := (.int (nar .char d0))) rfl ?_
  refine g_istore cx d7_13 (Ls' := #[.val (.ref ad0), .val (.int (0 : Int32)), .val (.ref ad1), .val (.int (0 : Int32)), .val (.int (3 : Int32)), .val (.int (0 : Int32)), .val (.int (nar .char d0))]) rfl ?_
  refine g_iload cx d7_15 rfl ?_
  refine g_sipush cx d7_17 (v := (255 : Int32)) rfl ?_
  refine g_icmp_le cx d7_20 (fun hc20 => ?_) (fun q => absurd q (fun q => by have i_q : ((255 : Int32)).toInt < ((nar .char d0)).toInt := Int32.lt_iff_toInt_lt.mp q; have e1 : (255 : Int32).toInt = 255 := rfl; have r3 := rng32 d0; have e2 : (((nar .char d0)).toInt - (d0).toInt) % 65536 = 0 ∧ 0 ≤ ((nar .char d0)).toInt ∧ ((nar .char d0)).toInt < 65536 := c_i2c d0; omega))
  refine g_aloadN cx d7_26 rfl rfl ?_
  refine g_iloadN cx d7_27 rfl ?_
  refine g_iload cx d7_28 rfl ?_
  refine g_i2b cx d7_30 ?_
  refine g_bastore cx d7_31 A_ad1 ⟨by decide, by decide⟩ (Nat.le_of_ble_eq_true rfl) g_ad1 (fun h1 W2 AA3 => ?_)
  have A_ad0 := A_ad0.other W2 ne_ad0_ad1
  have A_ad1 : Arx Z h1 ad1 cA_ad1 .byte (3 : Int32) [(.int (nar .byte (((nar .char d0)).toInt8.toInt32))), (.int (0 : Int32)), (.int (0 : Int32))] (.int (0 : Int32)) "[B" := AA3
  have OL := OL.wr W2 g_ad1
  have KK := KK.wr W2 (Or.inl (List.mem_of_getElem? (i := 0) rfl))
  refine g_iinc cx d7_32 rfl (v := (1 : Int32)) rfl (Ls' := #[.val (.ref ad0), .val (.int (1 : Int32)), .val (.ref ad1), .val (.int (0 : Int32)), .val (.int (3 : Int32)), .val (.int (0 : Int32)), .val (.int (nar .char d0))]) rfl ?_
  refine g_iinc cx d7_35 rfl (v := (1 : Int32)) rfl (Ls' := #[.val (.ref ad0), .val (.int (1 : Int32)), .val (.ref ad1), .val (.int (1 : Int32)), .val (.int (3 : Int32)), .val (.int (0 : Int32)), .val (.int (nar .char d0))]) rfl ?_
  refine g_iinc cx d7_38 rfl (v := (1 : Int32)) rfl (Ls' := #[.val (.ref ad0), .val (.int (1 : Int32)), .val (.ref ad1), .val (.int (1 : Int32)), .val (.int (3 : Int32)), .val (.int (1 : Int32)), .val (.int (nar .char d0))]) rfl ?_
  refine g_goto cx d7_41 ?_
  refine g_iload cx d7_3 rfl ?_
  refine g_iload cx d7_5 rfl ?_
  refine g_icmp_ge cx d7_7 (fun q => absurd q (fun q => by revert q; decide)) (fun hc7x => ?_)
  refine g_aloadN cx d7_10 rfl rfl ?_
  refine g_iloadN cx d7_11 rfl ?_
  refine g_caload cx d7_12 A_ad0.1 ⟨by decide, by decide⟩ (v := (.int (nar .char d1))) rfl ?_
  refine g_istore cx d7_13 (Ls' := #[.val (.ref ad0), .val (.int (1 : Int32)), .val (.ref ad1), .val (.int (1 : Int32)), .val (.int (3 : Int32)), .val (.int (1 : Int32)), .val (.int (nar .char d1))]) rfl ?_
  refine g_iload cx d7_15 rfl ?_
  refine g_sipush cx d7_17 (v := (255 : Int32)) rfl ?_
  refine g_icmp_le cx d7_20 (fun hc20x => ?_) (fun q => absurd q (fun q => by have i_q : ((255 : Int32)).toInt < ((nar .char d1)).toInt := Int32.lt_iff_toInt_lt.mp q; have e1 : (255 : Int32).toInt = 255 := rfl; have r3 := rng32 d1; have e2 : (((nar .char d1)).toInt - (d1).toInt) % 65536 = 0 ∧ 0 ≤ ((nar .char d1)).toInt ∧ ((nar .char d1)).toInt < 65536 := c_i2c d1; omega))
  refine g_aloadN cx d7_26 rfl rfl ?_
  refine g_iloadN cx d7_27 rfl ?_
  refine g_iload cx d7_28 rfl ?_
  refine g_i2b cx d7_30 ?_
  refine g_bastore cx d7_31 A_ad1 ⟨by decide, by decide⟩ (Nat.le_of_ble_eq_true rfl) g_ad1 (fun h4 W5 AA6 => ?_)
  have A_ad0 := A_ad0.other W5 ne_ad0_ad1
  have A_ad1 : Arx Z h4 ad1 cA_ad1 .byte (3 : Int32) [(.int (nar .byte (((nar .char d0)).toInt8.toInt32))), (.int (nar .byte (((nar .char d1)).toInt8.toInt32))), (.int (0 : Int32))] (.int (0 : Int32)) "[B" := AA6
  have OL := OL.wr W5 g_ad1
  have KK := KK.wr W5 (Or.inl (List.mem_of_getElem? (i := 0) rfl))
  refine g_iinc cx d7_32 rfl (v := (1 : Int32)) rfl (Ls' := #[.val (.ref ad0), .val (.int (2 : Int32)), .val (.ref ad1), .val (.int (1 : Int32)), .val (.int (3 : Int32)), .val (.int (1 : Int32)), .val (.int (nar .char d1))]) rfl ?_
  refine g_iinc cx d7_35 rfl (v := (1 : Int32)) rfl (Ls' := #[.val (.ref ad0), .val (.int (2 : Int32)), .val (.ref ad1), .val (.int (2 : Int32)), .val (.int (3 : Int32)), .val (.int (1 : Int32)), .val (.int (nar .char d1))]) rfl ?_
  refine g_iinc cx d7_38 rfl (v := (1 : Int32)) rfl (Ls' := #[.val (.ref ad0), .val (.int (2 : Int32)), .val (.ref ad1), .val (.int (2 : Int32)), .val (.int (3 : Int32)), .val (.int (2 : Int32)), .val (.int (nar .char d1))]) rfl ?_
  refine g_goto cx d7_41 ?_
  refine g_iload cx d7_3 rfl ?_
  refine g_iload cx d7_5 rfl ?_
  refine g_icmp_ge cx d7_7 (fun q => absurd q (fun q => by revert q; decide)) (fun hc7xx => ?_)
  refine g_aloadN cx d7_10 rfl rfl ?_
  refine g_iloadN cx d7_11 rfl ?_
  refine g_caload cx d7_12 A_ad0.1 ⟨by decide, by decide⟩ (v := (.int (nar .char d2))) rfl ?_
  refine g_istore cx d7_13 (Ls' := #[.val (.ref ad0), .val (.int (2 : Int32)), .val (.ref ad1), .val (.int (2 : Int32)), .val (.int (3 : Int32)), .val (.int (2 : Int32)), .val (.int (nar .char d2))]) rfl ?_
  refine g_iload cx d7_15 rfl ?_
  refine g_sipush cx d7_17 (v := (255 : Int32)) rfl ?_
  refine g_icmp_le cx d7_20 (fun hc20xx => ?_) (fun q => absurd q (fun q => by have i_q : ((255 : Int32)).toInt < ((nar .char d2)).toInt := Int32.lt_iff_toInt_lt.mp q; have e1 : (255 : Int32).toInt = 255 := rfl; have r3 := rng32 d2; have e2 : (((nar .char d2)).toInt - (d2).toInt) % 65536 = 0 ∧ 0 ≤ ((nar .char d2)).toInt ∧ ((nar .char d2)).toInt < 65536 := c_i2c d2; omega))
  refine g_aloadN cx d7_26 rfl rfl ?_
  refine g_iloadN cx d7_27 rfl ?_
  refine g_iload cx d7_28 rfl ?_
  refine g_i2b cx d7_30 ?_
  refine g_bastore cx d7_31 A_ad1 ⟨by decide, by decide⟩ (Nat.le_of_ble_eq_true rfl) g_ad1 (fun h7 W8 AA9 => ?_)
  have A_ad0 := A_ad0.other W8 ne_ad0_ad1
  have A_ad1 : Arx Z h7 ad1 cA_ad1 .byte (3 : Int32) [(.int (nar .byte (((nar .char d0)).toInt8.toInt32))), (.int (nar .byte (((nar .char d1)).toInt8.toInt32))), (.int (nar .byte (((nar .char d2)).toInt8.toInt32)))] (.int (0 : Int32)) "[B" := AA9
  have OL := OL.wr W8 g_ad1
  have KK := KK.wr W8 (Or.inl (List.mem_of_getElem? (i := 0) rfl))
  refine g_iinc cx d7_32 rfl (v := (1 : Int32)) rfl (Ls' := #[.val (.ref ad0), .val (.int (3 : Int32)), .val (.ref ad1), .val (.int (2 : Int32)), .val (.int (3 : Int32)), .val (.int (2 : Int32)), .val (.int (nar .char d2))]) rfl ?_
  refine g_iinc cx d7_35 rfl (v := (1 : Int32)) rfl (Ls' := #[.val (.ref ad0), .val (.int (3 : Int32)), .val (.ref ad1), .val (.int (3 : Int32)), .val (.int (3 : Int32)), .val (.int (2 : Int32)), .val (.int (nar .char d2))]) rfl ?_
  refine g_iinc cx d7_38 rfl (v := (1 : Int32)) rfl (Ls' := #[.val (.ref ad0), .val (.int (3 : Int32)), .val (.ref ad1), .val (.int (3 : Int32)), .val (.int (3 : Int32)), .val (.int (3 : Int32)), .val (.int (nar .char d2))]) rfl ?_
  refine g_goto cx d7_41 ?_
  refine g_iload cx d7_3 rfl ?_
  refine g_iload cx d7_5 rfl ?_
  refine g_icmp_ge cx d7_7 (fun hc7xxx => ?_) (fun q => absurd q (fun q => by revert q; decide))
  refine g_iload cx d7_44 rfl ?_
  refine g_retI cx d7_46 rfl (by decide) (by decide) ?_
  exact ⟨hc20, hc20x, hc20xx, rfl, KK, A_ad1⟩
theorem pn_rb13 : plainName "java/lang/StringUTF16" = true := by first | (simp [plainName, overriddenIn]; done) | decide +kernel
set_option maxRecDepth 65536 in
set_option maxHeartbeats 40000000 in
theorem rb13 (l : Launch) (Z : State) (a0 : Array Value) (hw : ∀ d ∈ tables_1, d.before a0 Z = true) (cs : Int32) (SCS : Sta Z Z.heap "java/lang/String" "COMPACT_STRINGS" "Z" (.int cs)) (hcs : ¬ cs = (0 : Int32)) (d0 d1 d2 d3 d4 : Int32) (lo0 : 0 ≤ d0.toInt) (hi0 : d0.toInt ≤ 255) (lo1 : 0 ≤ d1.toInt) (hi1 : d1.toInt ≤ 255) (lo2 : 0 ≤ d2.toInt) (hi2 : d2.toInt ≤ 255) (lo3 : 0 ≤ d3.toInt) (hi3 : d3.toInt ≤ 255) (lo4 : 0 ≤ d4.toInt) (hi4 : d4.toInt ≤ 255) (ad0 : Addr) (cA_ad0 : ClassId) (h0 : Heap) (A_ad0 : Arx Z h0 ad0 cA_ad0 .char (3 : Int32) [(.int (nar .char d0)), (.int (nar .char d1)), (.int (nar .char d2))] (.int (0 : Int32)) "[C") (g_ad0 : Z.heap.size ≤ ad0) (OL : Old Z Z.heap.size h0) :
    Met l Z (⟨"java/lang/StringUTF16", "compress", "([CII)[B"⟩ : MethodName) jdk_52_method_16_code 6 (some (.array .byte)) ({ frames := 1, cells := 1, slots := 3, locals := 18 } : Room) #[(.ref ad0), (.int (0 : Int32)), (.int (3 : Int32))] h0 (fun v h' => (∃ (b2 : Addr) (cA3 : ClassId) , ¬ ((255 : Int32) < (nar .char d0)) ∧ ¬ ((255 : Int32) < (nar .char d1)) ∧ ¬ ((255 : Int32) < (nar .char d2)) ∧ v = some (.ref b2) ∧ Keep h0 h' [] ∧ h0.size ≤ b2 ∧ Arx Z h' b2 cA3 .byte (3 : Int32) [(.int (nar .byte (((nar .char d0)).toInt8.toInt32))), (.int (nar .byte (((nar .char d1)).toInt8.toInt32))), (.int (nar .byte (((nar .char d2)).toInt8.toInt32)))] (.int (0 : Int32)) "[B")) := by
  refine met_of (Ls := #[.val (.ref ad0), .val (.int (0 : Int32)), .val (.int (3 : Int32)), .unset, .unset, .unset]) (plainFor_of_name pn_rb13) (fun m => by first | (simp [entryFrame, mkF, argsToLocals, Value.category]; done) | rfl) (fun p e s m below meth c cx => ?_)
  have KK := Keep.refl h0 []
  refine g_iloadN cx d6_0 rfl ?_
  refine g_newarray cx (ad := "[B") (by decide) d6_1 (hw _ (List.mem_of_getElem? (i := 26) rfl)) (by decide) (cap := 3) (by decide) (by decide) (k' := 1) (n' := 3) rfl rfl (by decide) (by decide) (fun h1 b2 cA3 gb4 E5 X6 => ?_)
  have ne_ad0_b2 : ad0 ≠ b2 := Nat.ne_of_lt (by rw [gb4]; exact A_ad0.lt)
  have g_b2 : Z.heap.size ≤ b2 := by rw [gb4]; exact OL.2.1
  have sz_b2 := (by rw [gb4]; exact KK.1 : h0.size ≤ b2)
  have A_ad0 := A_ad0.ext E5
  have OL := OL.ext E5
  have KK := KK.ext E5
  have A_b2 : Arx Z h1 b2 cA3 .byte (3 : Int32) [(.int (0 : Int32)), (.int (0 : Int32)), (.int (0 : Int32))] (.int (0 : Int32)) "[B" := X6.pad (pad_rep [] (.int (0 : Int32)) 3)
  refine g_astoreN cx d6_3 rfl (Ls' := #[.val (.ref ad0), .val (.int (0 : Int32)), .val (.int (3 : Int32)), .val (.ref b2), .unset, .unset]) rfl ?_
  refine g_aloadN cx d6_4 rfl rfl ?_
  refine g_iloadN cx d6_5 rfl ?_
  refine g_aloadN cx d6_6 rfl rfl ?_
  refine g_iconst cx d6_7 (v := (0 : Int32)) rfl ?_
  refine g_iloadN cx d6_8 rfl ?_
  refine g_static cx (y := (⟨"java/lang/StringUTF16", "compress", "([CI[BII)I"⟩ : MethodName)) d6_9 (hw _ (List.mem_of_getElem? (i := 27) rfl)) (hw _ (List.mem_of_getElem? (i := 28) rfl)) (hw _ (List.mem_of_getElem? (i := 24) rfl)) (hw _ (List.mem_of_getElem? (i := 29) rfl)) (by decide) (bytes := jdk_52_method_21_code) (maxL' := 7) (M := (rb14 l Z a0 hw cs SCS hcs d0 d1 d2 d3 d4 lo0 hi0 lo1 hi1 lo2 hi2 lo3 hi3 lo4 hi4 ad0 b2 cA_ad0 cA3 _ A_ad0 A_b2 ne_ad0_b2 g_ad0 g_b2 OL)) rfl (lenOf pd_14 rfl) (by decide) (W := 0) (Nat.le_of_eq rfl) (by decide) (k' := 1) (n' := 3) rfl rfl (by decide) (by decide) (argsL := [(.ref ad0), (.int (0 : Int32)), (.ref b2), (.int (0 : Int32)), (.int (3 : Int32))]) (rest := []) rfl (fun v12 h11 q13 => ?_)
  obtain ⟨hq7, hq8, hq9, rfl, K10, A_b2⟩ := q13
  have A_ad0 := A_ad0.keep K10 (ninS ne_ad0_b2 nin0)
  have OL := OL.keep K10 (allS g_b2 all0)
  have KK := KK.trans K10 (allS (P := fun z => z ∈ _ ∨ _ ≤ z) (Or.inr sz_b2) all0)
  refine G.cast (st' := [(.int (3 : Int32))]) ?_ rfl
  refine g_istore cx d6_12 (Ls' := #[.val (.ref ad0), .val (.int (0 : Int32)), .val (.int (3 : Int32)), .val (.ref b2), .val (.int (3 : Int32)), .unset]) rfl ?_
  refine g_iload cx d6_14 rfl ?_
  refine g_iloadN cx d6_16 rfl ?_
  refine g_icmp_eq cx d6_17 (fun hc17 => ?_) (fun q => absurd q (fun q => by revert q; decide))
  refine g_aloadN cx d6_57 rfl rfl ?_
  refine g_retA cx d6_58 (t := (.array .byte)) rfl rfl rfl rfl (by decide) (by decide) ?_
  exact ⟨b2, cA3, hq7, hq8, hq9, rfl, KK, sz_b2, A_b2⟩
theorem pn_rb15 : plainName "java/lang/StringUTF16" = true := by first | (simp [plainName, overriddenIn]; done) | decide +kernel
set_option maxRecDepth 65536 in
set_option maxHeartbeats 40000000 in
theorem rb15 (l : Launch) (Z : State) (a0 : Array Value) (hw : ∀ d ∈ tables_1, d.before a0 Z = true) (cs : Int32) (SCS : Sta Z Z.heap "java/lang/String" "COMPACT_STRINGS" "Z" (.int cs)) (hcs : ¬ cs = (0 : Int32)) (d0 d1 d2 d3 d4 : Int32) (lo0 : 0 ≤ d0.toInt) (hi0 : d0.toInt ≤ 255) (lo1 : 0 ≤ d1.toInt) (hi1 : d1.toInt ≤ 255) (lo2 : 0 ≤ d2.toInt) (hi2 : d2.toInt ≤ 255) (lo3 : 0 ≤ d3.toInt) (hi3 : d3.toInt ≤ 255) (lo4 : 0 ≤ d4.toInt) (hi4 : d4.toInt ≤ 255) (ad0 : Addr) (cA_ad0 : ClassId) (h0 : Heap) (A_ad0 : Arx Z h0 ad0 cA_ad0 .byte (3 : Int32) [(.int (nar .byte (((nar .char d0)).toInt8.toInt32))), (.int (nar .byte (((nar .char d1)).toInt8.toInt32))), (.int (nar .byte (((nar .char d2)).toInt8.toInt32)))] (.int (0 : Int32)) "[B") (g_ad0 : Z.heap.size ≤ ad0) (OL : Old Z Z.heap.size h0) :
    Met l Z (⟨"java/lang/StringUTF16", "coderFromArrayLen", "([BI)B"⟩ : MethodName) jdk_52_method_15_code 2 (some .byte) ({ frames := 0, cells := 0, slots := 0, locals := 0 } : Room) #[(.ref ad0), (.int (3 : Int32))] h0 (fun v h' => (v = some (.int (0 : Int32)) ∧ h0 = h')) := by
  refine met_of (Ls := #[.val (.ref ad0), .val (.int (3 : Int32))]) (plainFor_of_name pn_rb15) (fun m => by first | (simp [entryFrame, mkF, argsToLocals, Value.category]; done) | rfl) (fun p e s m below meth c cx => ?_)
  have KK := Keep.refl h0 []
  refine g_iloadN cx d8_0 rfl ?_
  refine g_aloadN cx d8_1 rfl rfl ?_
  refine g_arraylength cx d8_2 A_ad0.1 ?_
  refine g_isub cx d8_3 ?_
  refine G.cast (st' := [(.int (0 : Int32))]) ?_ rfl
  refine g_bipush cx d8_4 (v := (31 : Int32)) rfl ?_
  refine g_iushr cx d8_6 ?_
  refine G.cast (st' := [(.int (0 : Int32))]) ?_ rfl
  refine g_i2b cx d8_7 ?_
  refine G.cast (st' := [(.int (0 : Int32))]) ?_ rfl
  refine g_retN cx d8_8 (t := .byte) rfl (by simp) (by decide) (by decide) ?_
  exact ⟨rfl, rfl⟩
theorem pn_rb12 : plainName "java/lang/String" = true := by first | (simp [plainName, overriddenIn]; done) | decide +kernel
set_option maxRecDepth 65536 in
set_option maxHeartbeats 40000000 in
theorem rb12 (l : Launch) (Z : State) (a0 : Array Value) (hw : ∀ d ∈ tables_1, d.before a0 Z = true) (cs : Int32) (SCS : Sta Z Z.heap "java/lang/String" "COMPACT_STRINGS" "Z" (.int cs)) (hcs : ¬ cs = (0 : Int32)) (d0 d1 d2 d3 d4 : Int32) (lo0 : 0 ≤ d0.toInt) (hi0 : d0.toInt ≤ 255) (lo1 : 0 ≤ d1.toInt) (hi1 : d1.toInt ≤ 255) (lo2 : 0 ≤ d2.toInt) (hi2 : d2.toInt ≤ 255) (lo3 : 0 ≤ d3.toInt) (hi3 : d3.toInt ≤ 255) (lo4 : 0 ≤ d4.toInt) (hi4 : d4.toInt ≤ 255) (ad0 ad1 : Addr) (cA_ad1 : ClassId) (h0 : Heap) (O_ad0 : ObT Z h0 ad0 (.int (0 : Int32)) .null) (A_ad1 : Arx Z h0 ad1 cA_ad1 .char (3 : Int32) [(.int (nar .char d0)), (.int (nar .char d1)), (.int (nar .char d2))] (.int (0 : Int32)) "[C") (ne_ad0_ad1 : ad0 ≠ ad1) (g_ad0 : Z.heap.size ≤ ad0) (g_ad1 : Z.heap.size ≤ ad1) (OL : Old Z Z.heap.size h0) :
    Met l Z (⟨"java/lang/String", "<init>", "([CIILjava/lang/Void;)V"⟩ : MethodName) jdk_42_method_149_code 6 none ({ frames := 2, cells := 1, slots := 3, locals := 35 } : Room) #[(.ref ad0), (.ref ad1), (.int (0 : Int32)), (.int (3 : Int32)), .null] h0 (fun v h' => (∃ (b1 : Addr) (cA2 : ClassId) , ¬ (cs = (0 : Int32)) ∧ ¬ ((255 : Int32) < (nar .char d0)) ∧ ¬ ((255 : Int32) < (nar .char d1)) ∧ ¬ ((255 : Int32) < (nar .char d2)) ∧ v = none ∧ Keep h0 h' [ad0] ∧ h0.size ≤ b1 ∧ Arx Z h' b1 cA2 .byte (3 : Int32) [(.int (nar .byte (((nar .char d0)).toInt8.toInt32))), (.int (nar .byte (((nar .char d1)).toInt8.toInt32))), (.int (nar .byte (((nar .char d2)).toInt8.toInt32)))] (.int (0 : Int32)) "[B" ∧ ObT Z h' ad0 (.int (0 : Int32)) (.ref b1))) := by
  refine met_of (Ls := #[.val (.ref ad0), .val (.ref ad1), .val (.int (0 : Int32)), .val (.int (3 : Int32)), .val .null, .unset]) (plainFor_of_name pn_rb12) (fun m => by first | (simp [entryFrame, mkF, argsToLocals, Value.category]; done) | rfl) (fun p e s m below meth c cx => ?_)
  have KK := Keep.refl h0 [ad0]
  refine g_aloadN cx d4_0 rfl rfl ?_
  refine g_initO cx d4_1 (hw _ (List.mem_of_getElem? (i := 18) rfl)) (hw _ (List.mem_of_getElem? (i := 19) rfl)) (hw _ (List.mem_of_getElem? (i := 20) rfl)) rfl (by decide) (W := 0) (Nat.le_of_eq rfl) (by decide) ?_
  refine g_iloadN cx d4_4 rfl ?_
  refine g_if_ne cx d4_5 (fun hc5 => ?_) (fun q => absurd q (fun q => by revert q; decide))
  refine g_getS cx d4_27 (host := "") (Or.inl (hw _ (List.mem_of_getElem? (i := 21) rfl))) Via.refl (SCS.ext OL.2) ?_
  refine g_if_eq cx d4_30 (fun q => absurd q (fun q => hcs q)) (fun hc30 => ?_)
  refine g_aloadN cx d4_33 rfl rfl ?_
  refine g_iloadN cx d4_34 rfl ?_
  refine g_iloadN cx d4_35 rfl ?_
  refine g_static cx (y := (⟨"java/lang/StringUTF16", "compress", "([CII)[B"⟩ : MethodName)) d4_36 (hw _ (List.mem_of_getElem? (i := 22) rfl)) (hw _ (List.mem_of_getElem? (i := 23) rfl)) (hw _ (List.mem_of_getElem? (i := 24) rfl)) (hw _ (List.mem_of_getElem? (i := 25) rfl)) (by decide) (bytes := jdk_52_method_16_code) (maxL' := 6) (M := (rb13 l Z a0 hw cs SCS hcs d0 d1 d2 d3 d4 lo0 hi0 lo1 hi1 lo2 hi2 lo3 hi3 lo4 hi4 ad1 cA_ad1 _ A_ad1 g_ad1 OL)) rfl (lenOf pd_15 rfl) (by decide) (W := 0) (Nat.le_of_eq rfl) (by decide) (k' := 1) (n' := 3) rfl rfl (by decide) (by decide) (argsL := [(.ref ad1), (.int (0 : Int32)), (.int (3 : Int32))]) (rest := []) rfl (fun v8 h7 q9 => ?_)
  obtain ⟨b1, cA2, hq3, hq4, hq5, rfl, K6, sq_b1, A_b1⟩ := q9
  have ne_ad0_b1 : ad0 ≠ b1 := Nat.ne_of_lt (Nat.lt_of_lt_of_le O_ad0.lt sq_b1)
  have ne_ad1_b1 : ad1 ≠ b1 := Nat.ne_of_lt (Nat.lt_of_lt_of_le A_ad1.lt sq_b1)
  have g_b1 : Z.heap.size ≤ b1 := Nat.le_trans OL.2.1 sq_b1
  have sz_b1 := Nat.le_trans KK.1 sq_b1
  have O_ad0 := O_ad0.keep K6 nin0
  have A_ad1 := A_ad1.keep K6 nin0
  have OL := OL.keep K6 all0
  have KK := KK.trans K6 all0
  refine G.cast (st' := [(.ref b1)]) ?_ rfl
  refine g_astore cx d4_39 rfl (Ls' := #[.val (.ref ad0), .val (.ref ad1), .val (.int (0 : Int32)), .val (.int (3 : Int32)), .val .null, .val (.ref b1)]) rfl ?_
  refine g_aloadN cx d4_41 rfl rfl ?_
  refine g_aload cx d4_42 rfl rfl ?_
  refine g_iloadN cx d4_44 rfl ?_
  refine g_static cx (y := (⟨"java/lang/StringUTF16", "coderFromArrayLen", "([BI)B"⟩ : MethodName)) d4_45 (hw _ (List.mem_of_getElem? (i := 30) rfl)) (hw _ (List.mem_of_getElem? (i := 31) rfl)) (hw _ (List.mem_of_getElem? (i := 24) rfl)) (hw _ (List.mem_of_getElem? (i := 32) rfl)) (by decide) (bytes := jdk_52_method_15_code) (maxL' := 2) (M := (rb15 l Z a0 hw cs SCS hcs d0 d1 d2 d3 d4 lo0 hi0 lo1 hi1 lo2 hi2 lo3 hi3 lo4 hi4 b1 cA2 _ A_b1 g_b1 OL)) rfl (lenOf pd_16 rfl) (by decide) (W := 1) (Nat.le_of_eq rfl) (by decide) (k' := 1) (n' := 3) rfl rfl (by decide) (by decide) (argsL := [(.ref b1), (.int (3 : Int32))]) (rest := [(.ref ad0)]) rfl (fun v12 h11 q13 => ?_)
  obtain ⟨rfl, rfl⟩ := q13
  refine G.cast (st' := [(.int (0 : Int32)), (.ref ad0)]) ?_ rfl
  refine g_putFN cx d4_48 (hw _ (List.mem_of_getElem? (i := 33) rfl)) Via.refl O_ad0.2.1 O_ad0.1 (Or.inr ⟨(hw _ (List.mem_of_getElem? (i := 34) rfl)), rfl, rfl⟩) (hw _ (List.mem_of_getElem? (i := 9) rfl)) (ty := .byte) (v' := (.int (0 : Int32))) (by decide) rfl rfl g_ad0 (fun h14 W15 => ?_)
  have O_ad0 := O_ad0.put1 hw W15
  have A_ad1 := A_ad1.other W15 (Ne.symm ne_ad0_ad1)
  have A_b1 := A_b1.other W15 (Ne.symm ne_ad0_b1)
  have OL := OL.wr W15 g_ad0
  have KK := KK.wr W15 (Or.inl (List.mem_of_getElem? (i := 0) rfl))
  refine g_aloadN cx d4_51 rfl rfl ?_
  refine g_aload cx d4_52 rfl rfl ?_
  refine g_putF cx d4_54 (host := "") (Or.inl (hw _ (List.mem_of_getElem? (i := 35) rfl))) Via.refl O_ad0.2.2 O_ad0.1 (Or.inr ⟨(hw _ (List.mem_of_getElem? (i := 36) rfl)), rfl, rfl⟩) (hw _ (List.mem_of_getElem? (i := 9) rfl)) (ty := (.array .byte)) (by decide) rfl rfl g_ad0 (fun h16 W17 => ?_)
  have O_ad0 := O_ad0.put2 hw W17
  have A_ad1 := A_ad1.other W17 (Ne.symm ne_ad0_ad1)
  have A_b1 := A_b1.other W17 (Ne.symm ne_ad0_b1)
  have OL := OL.wr W17 g_ad0
  have KK := KK.wr W17 (Or.inl (List.mem_of_getElem? (i := 0) rfl))
  refine g_retV cx d4_57 rfl (by decide) (by decide) ?_
  exact ⟨b1, cA2, hc30, hq3, hq4, hq5, rfl, KK, sz_b1, A_b1, O_ad0⟩
theorem pn_rb11 : plainName "java/lang/String" = true := by first | (simp [plainName, overriddenIn]; done) | decide +kernel
set_option maxRecDepth 65536 in
set_option maxHeartbeats 40000000 in
theorem rb11 (l : Launch) (Z : State) (a0 : Array Value) (hw : ∀ d ∈ tables_1, d.before a0 Z = true) (cs : Int32) (SCS : Sta Z Z.heap "java/lang/String" "COMPACT_STRINGS" "Z" (.int cs)) (hcs : ¬ cs = (0 : Int32)) (d0 d1 d2 d3 d4 : Int32) (lo0 : 0 ≤ d0.toInt) (hi0 : d0.toInt ≤ 255) (lo1 : 0 ≤ d1.toInt) (hi1 : d1.toInt ≤ 255) (lo2 : 0 ≤ d2.toInt) (hi2 : d2.toInt ≤ 255) (lo3 : 0 ≤ d3.toInt) (hi3 : d3.toInt ≤ 255) (lo4 : 0 ≤ d4.toInt) (hi4 : d4.toInt ≤ 255) (ad0 ad1 : Addr) (cA_ad1 : ClassId) (h0 : Heap) (O_ad0 : ObT Z h0 ad0 (.int (0 : Int32)) .null) (A_ad1 : Arx Z h0 ad1 cA_ad1 .char (3 : Int32) [(.int (nar .char d0)), (.int (nar .char d1)), (.int (nar .char d2))] (.int (0 : Int32)) "[C") (ne_ad0_ad1 : ad0 ≠ ad1) (g_ad0 : Z.heap.size ≤ ad0) (g_ad1 : Z.heap.size ≤ ad1) (OL : Old Z Z.heap.size h0) :
    Met l Z (⟨"java/lang/String", "<init>", "([C)V"⟩ : MethodName) jdk_42_method_3_code 2 none ({ frames := 3, cells := 1, slots := 3, locals := 52 } : Room) #[(.ref ad0), (.ref ad1)] h0 (fun v h' => (∃ (b1 : Addr) (cA2 : ClassId) , ¬ (cs = (0 : Int32)) ∧ ¬ ((255 : Int32) < (nar .char d0)) ∧ ¬ ((255 : Int32) < (nar .char d1)) ∧ ¬ ((255 : Int32) < (nar .char d2)) ∧ v = none ∧ Keep h0 h' [ad0] ∧ h0.size ≤ b1 ∧ Arx Z h' b1 cA2 .byte (3 : Int32) [(.int (nar .byte (((nar .char d0)).toInt8.toInt32))), (.int (nar .byte (((nar .char d1)).toInt8.toInt32))), (.int (nar .byte (((nar .char d2)).toInt8.toInt32)))] (.int (0 : Int32)) "[B" ∧ ObT Z h' ad0 (.int (0 : Int32)) (.ref b1))) := by
  refine met_of (Ls := #[.val (.ref ad0), .val (.ref ad1)]) (plainFor_of_name pn_rb11) (fun m => by first | (simp [entryFrame, mkF, argsToLocals, Value.category]; done) | rfl) (fun p e s m below meth c cx => ?_)
  have KK := Keep.refl h0 [ad0]
  refine g_aloadN cx d3_0 rfl rfl ?_
  refine g_aloadN cx d3_1 rfl rfl ?_
  refine g_iconst cx d3_2 (v := (0 : Int32)) rfl ?_
  refine g_aloadN cx d3_3 rfl rfl ?_
  refine g_arraylength cx d3_4 A_ad1.1 ?_
  refine g_aconst_null cx d3_5 ?_
  have lt_ad0 := O_ad0.lt
  refine g_special cx (y := (⟨"java/lang/String", "<init>", "([CIILjava/lang/Void;)V"⟩ : MethodName)) (a := ad0) d3_6 rfl rfl (hw _ (List.mem_of_getElem? (i := 14) rfl)) (hw _ (List.mem_of_getElem? (i := 15) rfl)) (hw _ (List.mem_of_getElem? (i := 10) rfl)) (hw _ (List.mem_of_getElem? (i := 17) rfl)) (by decide) (bytes := jdk_42_method_149_code) (maxL' := 6) (M := (rb12 l Z a0 hw cs SCS hcs d0 d1 d2 d3 d4 lo0 hi0 lo1 hi1 lo2 hi2 lo3 hi3 lo4 hi4 ad0 ad1 cA_ad1 _ O_ad0 A_ad1 ne_ad0_ad1 g_ad0 g_ad1 OL)) rfl (lenOf pd_17 rfl) (by decide) (W := 0) (Nat.le_of_eq rfl) (by decide) (k' := 1) (n' := 3) rfl rfl (by decide) (by decide) (argsL := [(.ref ad1), (.int (0 : Int32)), (.int (3 : Int32)), .null]) (rest := []) rfl (fun v9 h8 q10 => ?_)
  obtain ⟨b1, cA2, hq3, hq4, hq5, hq6, rfl, K7, sq_b1, A_b1, O_ad0⟩ := q10
  have ne_ad0_b1 : ad0 ≠ b1 := Nat.ne_of_lt (Nat.lt_of_lt_of_le lt_ad0 sq_b1)
  have ne_ad1_b1 : ad1 ≠ b1 := Nat.ne_of_lt (Nat.lt_of_lt_of_le A_ad1.lt sq_b1)
  have g_b1 : Z.heap.size ≤ b1 := Nat.le_trans OL.2.1 sq_b1
  have sz_b1 := Nat.le_trans KK.1 sq_b1
  have A_ad1 := A_ad1.keep K7 (ninS (Ne.symm ne_ad0_ad1) nin0)
  have OL := OL.keep K7 (allS g_ad0 all0)
  have KK := KK.trans K7 (allS (P := fun z => z ∈ _ ∨ _ ≤ z) (Or.inl (List.mem_of_getElem? (i := 0) rfl)) all0)
  refine G.cast (st' := []) ?_ rfl
  refine g_retV cx d3_9 rfl (by decide) (by decide) ?_
  exact ⟨b1, cA2, hq3, hq4, hq5, hq6, rfl, KK, sz_b1, A_b1, O_ad0⟩
theorem d2_68 : Dc method_4_code 68 (.invokespecial 38) 3 71 := ⟨by decide +kernel, rfl⟩
theorem d2_71 : Dc method_4_code 71 (.areturn) 1 72 := ⟨by decide +kernel, rfl⟩
theorem pn_rmbu3 : plainName "com/example/crisp_typedef/crisptypedef/SignificandIsZeroPinLaw" = true := by first | (simp [plainName, overriddenIn]; done) | decide +kernel
set_option maxRecDepth 65536 in
set_option maxHeartbeats 40000000 in
theorem rmbu3 (l : Launch) (Z : State) (a0 : Array Value) (hw : ∀ d ∈ tables_1, d.before a0 Z = true) (cs : Int32) (SCS : Sta Z Z.heap "java/lang/String" "COMPACT_STRINGS" "Z" (.int cs)) (hcs : ¬ cs = (0 : Int32)) (d0 d1 d2 d3 d4 : Int32) (lo0 : 0 ≤ d0.toInt) (hi0 : d0.toInt ≤ 255) (lo1 : 0 ≤ d1.toInt) (hi1 : d1.toInt ≤ 255) (lo2 : 0 ≤ d2.toInt) (hi2 : d2.toInt ≤ 255) (lo3 : 0 ≤ d3.toInt) (hi3 : d3.toInt ≤ 255) (lo4 : 0 ≤ d4.toInt) (hi4 : d4.toInt ≤ 255) (h0 : Heap) (OL : Old Z Z.heap.size h0) :
    Met l Z (⟨"com/example/crisp_typedef/crisptypedef/SignificandIsZeroPinLaw", "build", "(ICCCCC)Ljava/lang/String;"⟩ : MethodName) method_4_code 6 (some (.object "java/lang/String")) ({ frames := 4, cells := 3, slots := 10, locals := 66 } : Room) #[(.int (3 : Int32)), (.int d0), (.int d1), (.int d2), (.int d3), (.int d4)] h0 (fun v h' => ∃ tx : Addr, v = some (.ref tx) ∧ Keep h0 h' [] ∧ h0.size ≤ tx ∧ own_T Z h' h'.size tx (3 : Int32) (own_ch d0 d1 d2 d3 d4)) := by
  refine met_of (Ls := #[.val (.int (3 : Int32)), .val (.int d0), .val (.int d1), .val (.int d2), .val (.int d3), .val (.int d4)]) (plainFor_of_name pn_rmbu3) (fun m => by first | (simp [entryFrame, mkF, argsToLocals, Value.category]; done) | rfl) (fun p e s m below meth c cx => ?_)
  have KK := Keep.refl h0 []
  refine g_iloadN cx d2_0 rfl ?_
  refine g_iconst cx d2_1 (v := (1 : Int32)) rfl ?_
  refine g_icmp_ne cx d2_2 (fun hc2 => ?_) (fun q => absurd q (fun q => by revert q; decide))
  refine g_iloadN cx d2_20 rfl ?_
  refine g_iconst cx d2_21 (v := (2 : Int32)) rfl ?_
  refine g_icmp_ne cx d2_22 (fun hc22 => ?_) (fun q => absurd q (fun q => by revert q; decide))
  refine g_iloadN cx d2_44 rfl ?_
  refine g_iconst cx d2_45 (v := (3 : Int32)) rfl ?_
  refine g_icmp_ne cx d2_46 (fun q => absurd q (fun q => by revert q; decide)) (fun hc46 => ?_)
  refine g_new cx d2_49 (hw _ (List.mem_of_getElem? (i := 8) rfl)) (hw _ (List.mem_of_getElem? (i := 9) rfl)) (hw _ (List.mem_of_getElem? (i := 10) rfl)) (k' := 1) (n' := 4) rfl rfl (by decide) (by decide) (fun h1 b2 gb3 E4 X5 D6 => ?_)
  have g_b2 : Z.heap.size ≤ b2 := by rw [gb3]; exact OL.2.1
  have sz_b2 := (by rw [gb3]; exact KK.1 : h0.size ≤ b2)
  have OL := OL.ext E4
  have KK := KK.ext E4
  have O_b2 := ObT.new hw X5 D6
  refine g_dup cx d2_52 rfl ?_
  refine g_iconst cx d2_53 (v := (3 : Int32)) rfl ?_
  refine g_newarray cx (ad := "[C") (by decide) d2_54 (hw _ (List.mem_of_getElem? (i := 4) rfl)) (by decide) (cap := 3) (by decide) (by decide) (k' := 2) (n' := 7) rfl rfl (by decide) (by decide) (fun h7 b8 cA9 gb10 E11 X12 => ?_)
  have ne_b2_b8 : b2 ≠ b8 := Nat.ne_of_lt (by rw [gb10]; exact O_b2.lt)
  have g_b8 : Z.heap.size ≤ b8 := by rw [gb10]; exact OL.2.1
  have sz_b8 := (by rw [gb10]; exact KK.1 : h0.size ≤ b8)
  have O_b2 := O_b2.ext E11
  have OL := OL.ext E11
  have KK := KK.ext E11
  have A_b8 : Arx Z h7 b8 cA9 .char (3 : Int32) [(.int (0 : Int32)), (.int (0 : Int32)), (.int (0 : Int32))] (.int (0 : Int32)) "[C" := X12.pad (pad_rep [] (.int (0 : Int32)) 3)
  refine g_dup cx d2_56 rfl ?_
  refine g_iconst cx d2_57 (v := (0 : Int32)) rfl ?_
  refine g_iloadN cx d2_58 rfl ?_
  refine g_castore cx d2_59 A_b8 ⟨by decide, by decide⟩ (Nat.le_of_ble_eq_true rfl) g_b8 (fun h13 W14 AA15 => ?_)
  have O_b2 := O_b2.oth W14 ne_b2_b8
  have A_b8 : Arx Z h13 b8 cA9 .char (3 : Int32) [(.int (nar .char d0)), (.int (0 : Int32)), (.int (0 : Int32))] (.int (0 : Int32)) "[C" := AA15
  have OL := OL.wr W14 g_b8
  have KK := KK.wr W14 (Or.inr sz_b8)
  refine g_dup cx d2_60 rfl ?_
  refine g_iconst cx d2_61 (v := (1 : Int32)) rfl ?_
  refine g_iloadN cx d2_62 rfl ?_
  refine g_castore cx d2_63 A_b8 ⟨by decide, by decide⟩ (Nat.le_of_ble_eq_true rfl) g_b8 (fun h16 W17 AA18 => ?_)
  have O_b2 := O_b2.oth W17 ne_b2_b8
  have A_b8 : Arx Z h16 b8 cA9 .char (3 : Int32) [(.int (nar .char d0)), (.int (nar .char d1)), (.int (0 : Int32))] (.int (0 : Int32)) "[C" := AA18
  have OL := OL.wr W17 g_b8
  have KK := KK.wr W17 (Or.inr sz_b8)
  refine g_dup cx d2_64 rfl ?_
  refine g_iconst cx d2_65 (v := (2 : Int32)) rfl ?_
  refine g_iloadN cx d2_66 rfl ?_
  refine g_castore cx d2_67 A_b8 ⟨by decide, by decide⟩ (Nat.le_of_ble_eq_true rfl) g_b8 (fun h19 W20 AA21 => ?_)
  have O_b2 := O_b2.oth W20 ne_b2_b8
  have A_b8 : Arx Z h19 b8 cA9 .char (3 : Int32) [(.int (nar .char d0)), (.int (nar .char d1)), (.int (nar .char d2))] (.int (0 : Int32)) "[C" := AA21
  have OL := OL.wr W20 g_b8
  have KK := KK.wr W20 (Or.inr sz_b8)
  have lt_b2 := O_b2.lt
  refine g_special cx (y := (⟨"java/lang/String", "<init>", "([C)V"⟩ : MethodName)) (a := b2) d2_68 rfl rfl (hw _ (List.mem_of_getElem? (i := 11) rfl)) (hw _ (List.mem_of_getElem? (i := 12) rfl)) (hw _ (List.mem_of_getElem? (i := 10) rfl)) (hw _ (List.mem_of_getElem? (i := 13) rfl)) (by decide) (bytes := jdk_42_method_3_code) (maxL' := 2) (M := (rb11 l Z a0 hw cs SCS hcs d0 d1 d2 d3 d4 lo0 hi0 lo1 hi1 lo2 hi2 lo3 hi3 lo4 hi4 b2 b8 cA9 _ O_b2 A_b8 ne_b2_b8 g_b2 g_b8 OL)) rfl (lenOf pd_18 rfl) (by decide) (W := 1) (Nat.le_of_eq rfl) (by decide) (k' := 3) (n' := 10) rfl rfl (by decide) (by decide) (argsL := [(.ref b8)]) (rest := [(.ref b2)]) rfl (fun v30 h29 q31 => ?_)
  obtain ⟨b22, cA23, hq24, hq25, hq26, hq27, rfl, K28, sq_b22, A_b22, O_b2⟩ := q31
  have ne_b2_b22 : b2 ≠ b22 := Nat.ne_of_lt (Nat.lt_of_lt_of_le lt_b2 sq_b22)
  have ne_b8_b22 : b8 ≠ b22 := Nat.ne_of_lt (Nat.lt_of_lt_of_le A_b8.lt sq_b22)
  have g_b22 : Z.heap.size ≤ b22 := Nat.le_trans OL.2.1 sq_b22
  have sz_b22 := Nat.le_trans KK.1 sq_b22
  have A_b8 := A_b8.keep K28 (ninS (Ne.symm ne_b2_b8) nin0)
  have OL := OL.keep K28 (allS g_b2 all0)
  have KK := KK.trans K28 (allS (P := fun z => z ∈ _ ∨ _ ≤ z) (Or.inr sz_b2) all0)
  refine G.cast (st' := [(.ref b2)]) ?_ rfl
  refine g_retA cx d2_71 (t := (.object "java/lang/String")) rfl rfl rfl rfl (by decide) (by decide) ?_
  have q0 : ((nar .byte (((nar .char d0)).toInt8.toInt32)) &&& (255 : Int32)) = d0 := Int32.toInt_inj.mp (by
    have r5 := rng32 d0
    have e4 : (((nar .char d0)).toInt - (d0).toInt) % 65536 = 0 ∧ 0 ≤ ((nar .char d0)).toInt ∧ ((nar .char d0)).toInt < 65536 := c_i2c d0
    have e3 := c_i2b (nar .char d0)
    have e2 : (((nar .byte (((nar .char d0)).toInt8.toInt32))).toInt - ((((nar .char d0)).toInt8.toInt32)).toInt) % 256 = 0 ∧ -128 ≤ ((nar .byte (((nar .char d0)).toInt8.toInt32))).toInt ∧ ((nar .byte (((nar .char d0)).toInt8.toInt32))).toInt < 128 := c_i2b (((nar .char d0)).toInt8.toInt32)
    have e1 : (((nar .byte (((nar .char d0)).toInt8.toInt32)) &&& (255 : Int32))).toInt = ((nar .byte (((nar .char d0)).toInt8.toInt32))).toInt % 256 := c_mask (nar .byte (((nar .char d0)).toInt8.toInt32)) (255 : Int32) 8 (by decide) (by decide)
    omega)
  have q1 : ((nar .byte (((nar .char d1)).toInt8.toInt32)) &&& (255 : Int32)) = d1 := Int32.toInt_inj.mp (by
    have r5 := rng32 d1
    have e4 : (((nar .char d1)).toInt - (d1).toInt) % 65536 = 0 ∧ 0 ≤ ((nar .char d1)).toInt ∧ ((nar .char d1)).toInt < 65536 := c_i2c d1
    have e3 := c_i2b (nar .char d1)
    have e2 : (((nar .byte (((nar .char d1)).toInt8.toInt32))).toInt - ((((nar .char d1)).toInt8.toInt32)).toInt) % 256 = 0 ∧ -128 ≤ ((nar .byte (((nar .char d1)).toInt8.toInt32))).toInt ∧ ((nar .byte (((nar .char d1)).toInt8.toInt32))).toInt < 128 := c_i2b (((nar .char d1)).toInt8.toInt32)
    have e1 : (((nar .byte (((nar .char d1)).toInt8.toInt32)) &&& (255 : Int32))).toInt = ((nar .byte (((nar .char d1)).toInt8.toInt32))).toInt % 256 := c_mask (nar .byte (((nar .char d1)).toInt8.toInt32)) (255 : Int32) 8 (by decide) (by decide)
    omega)
  have q2 : ((nar .byte (((nar .char d2)).toInt8.toInt32)) &&& (255 : Int32)) = d2 := Int32.toInt_inj.mp (by
    have r5 := rng32 d2
    have e4 : (((nar .char d2)).toInt - (d2).toInt) % 65536 = 0 ∧ 0 ≤ ((nar .char d2)).toInt ∧ ((nar .char d2)).toInt < 65536 := c_i2c d2
    have e3 := c_i2b (nar .char d2)
    have e2 : (((nar .byte (((nar .char d2)).toInt8.toInt32))).toInt - ((((nar .char d2)).toInt8.toInt32)).toInt) % 256 = 0 ∧ -128 ≤ ((nar .byte (((nar .char d2)).toInt8.toInt32))).toInt ∧ ((nar .byte (((nar .char d2)).toInt8.toInt32))).toInt < 128 := c_i2b (((nar .char d2)).toInt8.toInt32)
    have e1 : (((nar .byte (((nar .char d2)).toInt8.toInt32)) &&& (255 : Int32))).toInt = ((nar .byte (((nar .char d2)).toInt8.toInt32))).toInt % 256 := c_mask (nar .byte (((nar .char d2)).toInt8.toInt32)) (255 : Int32) 8 (by decide) (by decide)
    omega)
  refine ⟨b2, rfl, KK, sz_b2, b22, cA23, own_ch (nar .byte (((nar .char d0)).toInt8.toInt32)) (nar .byte (((nar .char d1)).toInt8.toInt32)) (nar .byte (((nar .char d2)).toInt8.toInt32)) (0 : Int32) (0 : Int32), O_b2.lt, A_b22.lt, Nat.le_refl _, by decide, by decide, O_b2, A_b22, fun j hj => ?_⟩
  have hj : j < 3 := hj
  match j, hj with
  | 0, _ => exact ⟨q0, lo0, hi0⟩
  | 1, _ => exact ⟨q1, lo1, hi1⟩
  | 2, _ => exact ⟨q2, lo2, hi2⟩
theorem d2_72 : Dc method_4_code 72 (.iload_n 0) 1 73 := ⟨by decide +kernel, rfl⟩
theorem d2_73 : Dc method_4_code 73 (.iconst 4) 1 74 := ⟨by decide +kernel, rfl⟩
theorem d2_74 : Bi method_4_code 74 (Instr.if_icmp .ne) 105 77 := ⟨31, by decide +kernel, by decide, by decide, rfl⟩
theorem d2_77 : Dc method_4_code 77 (.new 36) 3 80 := ⟨by decide +kernel, rfl⟩
theorem d2_80 : Dc method_4_code 80 (.dup) 1 81 := ⟨by decide +kernel, rfl⟩
theorem d2_81 : Dc method_4_code 81 (.iconst 4) 1 82 := ⟨by decide +kernel, rfl⟩
theorem d2_82 : Dc method_4_code 82 (.newarray .char) 2 84 := ⟨by decide +kernel, rfl⟩
theorem d2_84 : Dc method_4_code 84 (.dup) 1 85 := ⟨by decide +kernel, rfl⟩
theorem d2_85 : Dc method_4_code 85 (.iconst 0) 1 86 := ⟨by decide +kernel, rfl⟩
theorem d2_86 : Dc method_4_code 86 (.iload_n 1) 1 87 := ⟨by decide +kernel, rfl⟩
theorem d2_87 : Dc method_4_code 87 (.castore) 1 88 := ⟨by decide +kernel, rfl⟩
theorem d2_88 : Dc method_4_code 88 (.dup) 1 89 := ⟨by decide +kernel, rfl⟩
theorem d2_89 : Dc method_4_code 89 (.iconst 1) 1 90 := ⟨by decide +kernel, rfl⟩
theorem d2_90 : Dc method_4_code 90 (.iload_n 2) 1 91 := ⟨by decide +kernel, rfl⟩
theorem d2_91 : Dc method_4_code 91 (.castore) 1 92 := ⟨by decide +kernel, rfl⟩
theorem d2_92 : Dc method_4_code 92 (.dup) 1 93 := ⟨by decide +kernel, rfl⟩
theorem d2_93 : Dc method_4_code 93 (.iconst 2) 1 94 := ⟨by decide +kernel, rfl⟩
theorem d2_94 : Dc method_4_code 94 (.iload_n 3) 1 95 := ⟨by decide +kernel, rfl⟩
theorem d2_95 : Dc method_4_code 95 (.castore) 1 96 := ⟨by decide +kernel, rfl⟩
theorem d2_96 : Dc method_4_code 96 (.dup) 1 97 := ⟨by decide +kernel, rfl⟩
theorem d2_97 : Dc method_4_code 97 (.iconst 3) 1 98 := ⟨by decide +kernel, rfl⟩
theorem d2_98 : Dc method_4_code 98 (.iload 4) 2 100 := ⟨by decide +kernel, rfl⟩
theorem d2_100 : Dc method_4_code 100 (.castore) 1 101 := ⟨by decide +kernel, rfl⟩
theorem pn_rb19 : plainName "java/lang/StringUTF16" = true := by first | (simp [plainName, overriddenIn]; done) | decide +kernel
set_option maxRecDepth 65536 in
set_option maxHeartbeats 40000000 in
theorem rb19 (l : Launch) (Z : State) (a0 : Array Value) (hw : ∀ d ∈ tables_1, d.before a0 Z = true) (cs : Int32) (SCS : Sta Z Z.heap "java/lang/String" "COMPACT_STRINGS" "Z" (.int cs)) (hcs : ¬ cs = (0 : Int32)) (d0 d1 d2 d3 d4 : Int32) (lo0 : 0 ≤ d0.toInt) (hi0 : d0.toInt ≤ 255) (lo1 : 0 ≤ d1.toInt) (hi1 : d1.toInt ≤ 255) (lo2 : 0 ≤ d2.toInt) (hi2 : d2.toInt ≤ 255) (lo3 : 0 ≤ d3.toInt) (hi3 : d3.toInt ≤ 255) (lo4 : 0 ≤ d4.toInt) (hi4 : d4.toInt ≤ 255) (ad0 ad1 : Addr) (cA_ad0 : ClassId) (cA_ad1 : ClassId) (h0 : Heap) (A_ad0 : Arx Z h0 ad0 cA_ad0 .char (4 : Int32) [(.int (nar .char d0)), (.int (nar .char d1)), (.int (nar .char d2)), (.int (nar .char d3))] (.int (0 : Int32)) "[C") (A_ad1 : Arx Z h0 ad1 cA_ad1 .byte (4 : Int32) [(.int (0 : Int32)), (.int (0 : Int32)), (.int (0 : Int32)), (.int (0 : Int32))] (.int (0 : Int32)) "[B") (ne_ad0_ad1 : ad0 ≠ ad1) (g_ad0 : Z.heap.size ≤ ad0) (g_ad1 : Z.heap.size ≤ ad1) (OL : Old Z Z.heap.size h0) :
    Met l Z (⟨"java/lang/StringUTF16", "compress", "([CI[BII)I"⟩ : MethodName) jdk_52_method_21_code 7 (some .int) ({ frames := 0, cells := 0, slots := 0, locals := 0 } : Room) #[(.ref ad0), (.int (0 : Int32)), (.ref ad1), (.int (0 : Int32)), (.int (4 : Int32))] h0 (fun v h' => (¬ ((255 : Int32) < (nar .char d0)) ∧ ¬ ((255 : Int32) < (nar .char d1)) ∧ ¬ ((255 : Int32) < (nar .char d2)) ∧ ¬ ((255 : Int32) < (nar .char d3)) ∧ v = some (.int (4 : Int32)) ∧ Keep h0 h' [ad1] ∧ Arx Z h' ad1 cA_ad1 .byte (4 : Int32) [(.int (nar .byte (((nar .char d0)).toInt8.toInt32))), (.int (nar .byte (((nar .char d1)).toInt8.toInt32))), (.int (nar .byte (((nar .char d2)).toInt8.toInt32))), (.int (nar .byte (((nar .char d3)).toInt8.toInt32)))] (.int (0 : Int32)) "[B")) := by
  refine met_of (Ls := #[.val (.ref ad0), .val (.int (0 : Int32)), .val (.ref ad1), .val (.int (0 : Int32)), .val (.int (4 : Int32)), .unset, .unset]) (plainFor_of_name pn_rb19) (fun m => by first | (simp [entryFrame, mkF, argsToLocals, Value.category]; done) | rfl) (fun p e s m below meth c cx => ?_)
  have KK := Keep.refl h0 [ad1]
  refine g_iconst cx d7_0 (v := (0 : Int32)) rfl ?_
  refine g_istore cx d7_1 (Ls' := #[.val (.ref ad0), .val (.int (0 : Int32)), .val (.ref ad1), .val (.int (0 : Int32)), .val (.int (4 : Int32)), .val (.int (0 : Int32)), .unset]) rfl ?_
  refine g_iload cx d7_3 rfl ?_
  refine g_iload cx d7_5 rfl ?_
  refine g_icmp_ge cx d7_7 (fun q => absurd q (fun q => by revert q; decide)) (fun hc7 => ?_)
  refine g_aloadN cx d7_10 rfl rfl ?_
  refine g_iloadN cx d7_11 rfl ?_
  refine g_caload cx d7_12 A_ad0.1 ⟨by decide, by decide⟩ (v := (.int (nar .char d0))) rfl ?_
  refine g_istore cx d7_13 (Ls' := #[.val (.ref ad0), .val (.int (0 : Int32)), .val (.ref ad1), .val (.int (0 : Int32)), .val (.int (4 : Int32)), .val (.int (0 : Int32)), .val (.int (nar .char d0))]) rfl ?_
  refine g_iload cx d7_15 rfl ?_
  refine g_sipush cx d7_17 (v := (255 : Int32)) rfl ?_
  refine g_icmp_le cx d7_20 (fun hc20 => ?_) (fun q => absurd q (fun q => by have i_q : ((255 : Int32)).toInt < ((nar .char d0)).toInt := Int32.lt_iff_toInt_lt.mp q; have e1 : (255 : Int32).toInt = 255 := rfl; have r3 := rng32 d0; have e2 : (((nar .char d0)).toInt - (d0).toInt) % 65536 = 0 ∧ 0 ≤ ((nar .char d0)).toInt ∧ ((nar .char d0)).toInt < 65536 := c_i2c d0; omega))
  refine g_aloadN cx d7_26 rfl rfl ?_
  refine g_iloadN cx d7_27 rfl ?_
  refine g_iload cx d7_28 rfl ?_
  refine g_i2b cx d7_30 ?_
  refine g_bastore cx d7_31 A_ad1 ⟨by decide, by decide⟩ (Nat.le_of_ble_eq_true rfl) g_ad1 (fun h1 W2 AA3 => ?_)
  have A_ad0 := A_ad0.other W2 ne_ad0_ad1
  have A_ad1 : Arx Z h1 ad1 cA_ad1 .byte (4 : Int32) [(.int (nar .byte (((nar .char d0)).toInt8.toInt32))), (.int (0 : Int32)), (.int (0 : Int32)), (.int (0 : Int32))] (.int (0 : Int32)) "[B" := AA3
  have OL := OL.wr W2 g_ad1
  have KK := KK.wr W2 (Or.inl (List.mem_of_getElem? (i := 0) rfl))
  refine g_iinc cx d7_32 rfl (v := (1 : Int32)) rfl (Ls' := #[.val (.ref ad0), .val (.int (1 : Int32)), .val (.ref ad1), .val (.int (0 : Int32)), .val (.int (4 : Int32)), .val (.int (0 : Int32)), .val (.int (nar .char d0))]) rfl ?_
  refine g_iinc cx d7_35 rfl (v := (1 : Int32)) rfl (Ls' := #[.val (.ref ad0), .val (.int (1 : Int32)), .val (.ref ad1), .val (.int (1 : Int32)), .val (.int (4 : Int32)), .val (.int (0 : Int32)), .val (.int (nar .char d0))]) rfl ?_
  refine g_iinc cx d7_38 rfl (v := (1 : Int32)) rfl (Ls' := #[.val (.ref ad0), .val (.int (1 : Int32)), .val (.ref ad1), .val (.int (1 : Int32)), .val (.int (4 : Int32)), .val (.int (1 : Int32)), .val (.int (nar .char d0))]) rfl ?_
  refine g_goto cx d7_41 ?_
  refine g_iload cx d7_3 rfl ?_
  refine g_iload cx d7_5 rfl ?_
  refine g_icmp_ge cx d7_7 (fun q => absurd q (fun q => by revert q; decide)) (fun hc7x => ?_)
  refine g_aloadN cx d7_10 rfl rfl ?_
  refine g_iloadN cx d7_11 rfl ?_
  refine g_caload cx d7_12 A_ad0.1 ⟨by decide, by decide⟩ (v := (.int (nar .char d1))) rfl ?_
  refine g_istore cx d7_13 (Ls' := #[.val (.ref ad0), .val (.int (1 : Int32)), .val (.ref ad1), .val (.int (1 : Int32)), .val (.int (4 : Int32)), .val (.int (1 : Int32)), .val (.int (nar .char d1))]) rfl ?_
  refine g_iload cx d7_15 rfl ?_
  refine g_sipush cx d7_17 (v := (255 : Int32)) rfl ?_
  refine g_icmp_le cx d7_20 (fun hc20x => ?_) (fun q => absurd q (fun q => by have i_q : ((255 : Int32)).toInt < ((nar .char d1)).toInt := Int32.lt_iff_toInt_lt.mp q; have e1 : (255 : Int32).toInt = 255 := rfl; have r3 := rng32 d1; have e2 : (((nar .char d1)).toInt - (d1).toInt) % 65536 = 0 ∧ 0 ≤ ((nar .char d1)).toInt ∧ ((nar .char d1)).toInt < 65536 := c_i2c d1; omega))
  refine g_aloadN cx d7_26 rfl rfl ?_
  refine g_iloadN cx d7_27 rfl ?_
  refine g_iload cx d7_28 rfl ?_
  refine g_i2b cx d7_30 ?_
  refine g_bastore cx d7_31 A_ad1 ⟨by decide, by decide⟩ (Nat.le_of_ble_eq_true rfl) g_ad1 (fun h4 W5 AA6 => ?_)
  have A_ad0 := A_ad0.other W5 ne_ad0_ad1
  have A_ad1 : Arx Z h4 ad1 cA_ad1 .byte (4 : Int32) [(.int (nar .byte (((nar .char d0)).toInt8.toInt32))), (.int (nar .byte (((nar .char d1)).toInt8.toInt32))), (.int (0 : Int32)), (.int (0 : Int32))] (.int (0 : Int32)) "[B" := AA6
  have OL := OL.wr W5 g_ad1
  have KK := KK.wr W5 (Or.inl (List.mem_of_getElem? (i := 0) rfl))
  refine g_iinc cx d7_32 rfl (v := (1 : Int32)) rfl (Ls' := #[.val (.ref ad0), .val (.int (2 : Int32)), .val (.ref ad1), .val (.int (1 : Int32)), .val (.int (4 : Int32)), .val (.int (1 : Int32)), .val (.int (nar .char d1))]) rfl ?_
  refine g_iinc cx d7_35 rfl (v := (1 : Int32)) rfl (Ls' := #[.val (.ref ad0), .val (.int (2 : Int32)), .val (.ref ad1), .val (.int (2 : Int32)), .val (.int (4 : Int32)), .val (.int (1 : Int32)), .val (.int (nar .char d1))]) rfl ?_
  refine g_iinc cx d7_38 rfl (v := (1 : Int32)) rfl (Ls' := #[.val (.ref ad0), .val (.int (2 : Int32)), .val (.ref ad1), .val (.int (2 : Int32)), .val (.int (4 : Int32)), .val (.int (2 : Int32)), .val (.int (nar .char d1))]) rfl ?_
  refine g_goto cx d7_41 ?_
  refine g_iload cx d7_3 rfl ?_
  refine g_iload cx d7_5 rfl ?_
  refine g_icmp_ge cx d7_7 (fun q => absurd q (fun q => by revert q; decide)) (fun hc7xx => ?_)
  refine g_aloadN cx d7_10 rfl rfl ?_
  refine g_iloadN cx d7_11 rfl ?_
  refine g_caload cx d7_12 A_ad0.1 ⟨by decide, by decide⟩ (v := (.int (nar .char d2))) rfl ?_
  refine g_istore cx d7_13 (Ls' := #[.val (.ref ad0), .val (.int (2 : Int32)), .val (.ref ad1), .val (.int (2 : Int32)), .val (.int (4 : Int32)), .val (.int (2 : Int32)), .val (.int (nar .char d2))]) rfl ?_
  refine g_iload cx d7_15 rfl ?_
  refine g_sipush cx d7_17 (v := (255 : Int32)) rfl ?_
  refine g_icmp_le cx d7_20 (fun hc20xx => ?_) (fun q => absurd q (fun q => by have i_q : ((255 : Int32)).toInt < ((nar .char d2)).toInt := Int32.lt_iff_toInt_lt.mp q; have e1 : (255 : Int32).toInt = 255 := rfl; have r3 := rng32 d2; have e2 : (((nar .char d2)).toInt - (d2).toInt) % 65536 = 0 ∧ 0 ≤ ((nar .char d2)).toInt ∧ ((nar .char d2)).toInt < 65536 := c_i2c d2; omega))
  refine g_aloadN cx d7_26 rfl rfl ?_
  refine g_iloadN cx d7_27 rfl ?_
  refine g_iload cx d7_28 rfl ?_
  refine g_i2b cx d7_30 ?_
  refine g_bastore cx d7_31 A_ad1 ⟨by decide, by decide⟩ (Nat.le_of_ble_eq_true rfl) g_ad1 (fun h7 W8 AA9 => ?_)
  have A_ad0 := A_ad0.other W8 ne_ad0_ad1
  have A_ad1 : Arx Z h7 ad1 cA_ad1 .byte (4 : Int32) [(.int (nar .byte (((nar .char d0)).toInt8.toInt32))), (.int (nar .byte (((nar .char d1)).toInt8.toInt32))), (.int (nar .byte (((nar .char d2)).toInt8.toInt32))), (.int (0 : Int32))] (.int (0 : Int32)) "[B" := AA9
  have OL := OL.wr W8 g_ad1
  have KK := KK.wr W8 (Or.inl (List.mem_of_getElem? (i := 0) rfl))
  refine g_iinc cx d7_32 rfl (v := (1 : Int32)) rfl (Ls' := #[.val (.ref ad0), .val (.int (3 : Int32)), .val (.ref ad1), .val (.int (2 : Int32)), .val (.int (4 : Int32)), .val (.int (2 : Int32)), .val (.int (nar .char d2))]) rfl ?_
  refine g_iinc cx d7_35 rfl (v := (1 : Int32)) rfl (Ls' := #[.val (.ref ad0), .val (.int (3 : Int32)), .val (.ref ad1), .val (.int (3 : Int32)), .val (.int (4 : Int32)), .val (.int (2 : Int32)), .val (.int (nar .char d2))]) rfl ?_
  refine g_iinc cx d7_38 rfl (v := (1 : Int32)) rfl (Ls' := #[.val (.ref ad0), .val (.int (3 : Int32)), .val (.ref ad1), .val (.int (3 : Int32)), .val (.int (4 : Int32)), .val (.int (3 : Int32)), .val (.int (nar .char d2))]) rfl ?_
  refine g_goto cx d7_41 ?_
  refine g_iload cx d7_3 rfl ?_
  refine g_iload cx d7_5 rfl ?_
  refine g_icmp_ge cx d7_7 (fun q => absurd q (fun q => by revert q; decide)) (fun hc7xxx => ?_)
  refine g_aloadN cx d7_10 rfl rfl ?_
  refine g_iloadN cx d7_11 rfl ?_
  refine g_caload cx d7_12 A_ad0.1 ⟨by decide, by decide⟩ (v := (.int (nar .char d3))) rfl ?_
  refine g_istore cx d7_13 (Ls' := #[.val (.ref ad0), .val (.int (3 : Int32)), .val (.ref ad1), .val (.int (3 : Int32)), .val (.int (4 : Int32)), .val (.int (3 : Int32)), .val (.int (nar .char d3))]) rfl ?_
  refine g_iload cx d7_15 rfl ?_
  refine g_sipush cx d7_17 (v := (255 : Int32)) rfl ?_
  refine g_icmp_le cx d7_20 (fun hc20xxx => ?_) (fun q => absurd q (fun q => by have i_q : ((255 : Int32)).toInt < ((nar .char d3)).toInt := Int32.lt_iff_toInt_lt.mp q; have e1 : (255 : Int32).toInt = 255 := rfl; have r3 := rng32 d3; have e2 : (((nar .char d3)).toInt - (d3).toInt) % 65536 = 0 ∧ 0 ≤ ((nar .char d3)).toInt ∧ ((nar .char d3)).toInt < 65536 := c_i2c d3; omega))
  refine g_aloadN cx d7_26 rfl rfl ?_
  refine g_iloadN cx d7_27 rfl ?_
  refine g_iload cx d7_28 rfl ?_
  refine g_i2b cx d7_30 ?_
  refine g_bastore cx d7_31 A_ad1 ⟨by decide, by decide⟩ (Nat.le_of_ble_eq_true rfl) g_ad1 (fun h10 W11 AA12 => ?_)
  have A_ad0 := A_ad0.other W11 ne_ad0_ad1
  have A_ad1 : Arx Z h10 ad1 cA_ad1 .byte (4 : Int32) [(.int (nar .byte (((nar .char d0)).toInt8.toInt32))), (.int (nar .byte (((nar .char d1)).toInt8.toInt32))), (.int (nar .byte (((nar .char d2)).toInt8.toInt32))), (.int (nar .byte (((nar .char d3)).toInt8.toInt32)))] (.int (0 : Int32)) "[B" := AA12
  have OL := OL.wr W11 g_ad1
  have KK := KK.wr W11 (Or.inl (List.mem_of_getElem? (i := 0) rfl))
  refine g_iinc cx d7_32 rfl (v := (1 : Int32)) rfl (Ls' := #[.val (.ref ad0), .val (.int (4 : Int32)), .val (.ref ad1), .val (.int (3 : Int32)), .val (.int (4 : Int32)), .val (.int (3 : Int32)), .val (.int (nar .char d3))]) rfl ?_
  refine g_iinc cx d7_35 rfl (v := (1 : Int32)) rfl (Ls' := #[.val (.ref ad0), .val (.int (4 : Int32)), .val (.ref ad1), .val (.int (4 : Int32)), .val (.int (4 : Int32)), .val (.int (3 : Int32)), .val (.int (nar .char d3))]) rfl ?_
  refine g_iinc cx d7_38 rfl (v := (1 : Int32)) rfl (Ls' := #[.val (.ref ad0), .val (.int (4 : Int32)), .val (.ref ad1), .val (.int (4 : Int32)), .val (.int (4 : Int32)), .val (.int (4 : Int32)), .val (.int (nar .char d3))]) rfl ?_
  refine g_goto cx d7_41 ?_
  refine g_iload cx d7_3 rfl ?_
  refine g_iload cx d7_5 rfl ?_
  refine g_icmp_ge cx d7_7 (fun hc7xxxx => ?_) (fun q => absurd q (fun q => by revert q; decide))
  refine g_iload cx d7_44 rfl ?_
  refine g_retI cx d7_46 rfl (by decide) (by decide) ?_
  exact ⟨hc20, hc20x, hc20xx, hc20xxx, rfl, KK, A_ad1⟩
theorem pn_rb18 : plainName "java/lang/StringUTF16" = true := by first | (simp [plainName, overriddenIn]; done) | decide +kernel
set_option maxRecDepth 65536 in
set_option maxHeartbeats 40000000 in
theorem rb18 (l : Launch) (Z : State) (a0 : Array Value) (hw : ∀ d ∈ tables_1, d.before a0 Z = true) (cs : Int32) (SCS : Sta Z Z.heap "java/lang/String" "COMPACT_STRINGS" "Z" (.int cs)) (hcs : ¬ cs = (0 : Int32)) (d0 d1 d2 d3 d4 : Int32) (lo0 : 0 ≤ d0.toInt) (hi0 : d0.toInt ≤ 255) (lo1 : 0 ≤ d1.toInt) (hi1 : d1.toInt ≤ 255) (lo2 : 0 ≤ d2.toInt) (hi2 : d2.toInt ≤ 255) (lo3 : 0 ≤ d3.toInt) (hi3 : d3.toInt ≤ 255) (lo4 : 0 ≤ d4.toInt) (hi4 : d4.toInt ≤ 255) (ad0 : Addr) (cA_ad0 : ClassId) (h0 : Heap) (A_ad0 : Arx Z h0 ad0 cA_ad0 .char (4 : Int32) [(.int (nar .char d0)), (.int (nar .char d1)), (.int (nar .char d2)), (.int (nar .char d3))] (.int (0 : Int32)) "[C") (g_ad0 : Z.heap.size ≤ ad0) (OL : Old Z Z.heap.size h0) :
    Met l Z (⟨"java/lang/StringUTF16", "compress", "([CII)[B"⟩ : MethodName) jdk_52_method_16_code 6 (some (.array .byte)) ({ frames := 1, cells := 1, slots := 4, locals := 18 } : Room) #[(.ref ad0), (.int (0 : Int32)), (.int (4 : Int32))] h0 (fun v h' => (∃ (b2 : Addr) (cA3 : ClassId) , ¬ ((255 : Int32) < (nar .char d0)) ∧ ¬ ((255 : Int32) < (nar .char d1)) ∧ ¬ ((255 : Int32) < (nar .char d2)) ∧ ¬ ((255 : Int32) < (nar .char d3)) ∧ v = some (.ref b2) ∧ Keep h0 h' [] ∧ h0.size ≤ b2 ∧ Arx Z h' b2 cA3 .byte (4 : Int32) [(.int (nar .byte (((nar .char d0)).toInt8.toInt32))), (.int (nar .byte (((nar .char d1)).toInt8.toInt32))), (.int (nar .byte (((nar .char d2)).toInt8.toInt32))), (.int (nar .byte (((nar .char d3)).toInt8.toInt32)))] (.int (0 : Int32)) "[B")) := by
  refine met_of (Ls := #[.val (.ref ad0), .val (.int (0 : Int32)), .val (.int (4 : Int32)), .unset, .unset, .unset]) (plainFor_of_name pn_rb18) (fun m => by first | (simp [entryFrame, mkF, argsToLocals, Value.category]; done) | rfl) (fun p e s m below meth c cx => ?_)
  have KK := Keep.refl h0 []
  refine g_iloadN cx d6_0 rfl ?_
  refine g_newarray cx (ad := "[B") (by decide) d6_1 (hw _ (List.mem_of_getElem? (i := 26) rfl)) (by decide) (cap := 4) (by decide) (by decide) (k' := 1) (n' := 4) rfl rfl (by decide) (by decide) (fun h1 b2 cA3 gb4 E5 X6 => ?_)
  have ne_ad0_b2 : ad0 ≠ b2 := Nat.ne_of_lt (by rw [gb4]; exact A_ad0.lt)
  have g_b2 : Z.heap.size ≤ b2 := by rw [gb4]; exact OL.2.1
  have sz_b2 := (by rw [gb4]; exact KK.1 : h0.size ≤ b2)
  have A_ad0 := A_ad0.ext E5
  have OL := OL.ext E5
  have KK := KK.ext E5
  have A_b2 : Arx Z h1 b2 cA3 .byte (4 : Int32) [(.int (0 : Int32)), (.int (0 : Int32)), (.int (0 : Int32)), (.int (0 : Int32))] (.int (0 : Int32)) "[B" := X6.pad (pad_rep [] (.int (0 : Int32)) 4)
  refine g_astoreN cx d6_3 rfl (Ls' := #[.val (.ref ad0), .val (.int (0 : Int32)), .val (.int (4 : Int32)), .val (.ref b2), .unset, .unset]) rfl ?_
  refine g_aloadN cx d6_4 rfl rfl ?_
  refine g_iloadN cx d6_5 rfl ?_
  refine g_aloadN cx d6_6 rfl rfl ?_
  refine g_iconst cx d6_7 (v := (0 : Int32)) rfl ?_
  refine g_iloadN cx d6_8 rfl ?_
  refine g_static cx (y := (⟨"java/lang/StringUTF16", "compress", "([CI[BII)I"⟩ : MethodName)) d6_9 (hw _ (List.mem_of_getElem? (i := 27) rfl)) (hw _ (List.mem_of_getElem? (i := 28) rfl)) (hw _ (List.mem_of_getElem? (i := 24) rfl)) (hw _ (List.mem_of_getElem? (i := 29) rfl)) (by decide) (bytes := jdk_52_method_21_code) (maxL' := 7) (M := (rb19 l Z a0 hw cs SCS hcs d0 d1 d2 d3 d4 lo0 hi0 lo1 hi1 lo2 hi2 lo3 hi3 lo4 hi4 ad0 b2 cA_ad0 cA3 _ A_ad0 A_b2 ne_ad0_b2 g_ad0 g_b2 OL)) rfl (lenOf pd_14 rfl) (by decide) (W := 0) (Nat.le_of_eq rfl) (by decide) (k' := 1) (n' := 4) rfl rfl (by decide) (by decide) (argsL := [(.ref ad0), (.int (0 : Int32)), (.ref b2), (.int (0 : Int32)), (.int (4 : Int32))]) (rest := []) rfl (fun v13 h12 q14 => ?_)
  obtain ⟨hq7, hq8, hq9, hq10, rfl, K11, A_b2⟩ := q14
  have A_ad0 := A_ad0.keep K11 (ninS ne_ad0_b2 nin0)
  have OL := OL.keep K11 (allS g_b2 all0)
  have KK := KK.trans K11 (allS (P := fun z => z ∈ _ ∨ _ ≤ z) (Or.inr sz_b2) all0)
  refine G.cast (st' := [(.int (4 : Int32))]) ?_ rfl
  refine g_istore cx d6_12 (Ls' := #[.val (.ref ad0), .val (.int (0 : Int32)), .val (.int (4 : Int32)), .val (.ref b2), .val (.int (4 : Int32)), .unset]) rfl ?_
  refine g_iload cx d6_14 rfl ?_
  refine g_iloadN cx d6_16 rfl ?_
  refine g_icmp_eq cx d6_17 (fun hc17 => ?_) (fun q => absurd q (fun q => by revert q; decide))
  refine g_aloadN cx d6_57 rfl rfl ?_
  refine g_retA cx d6_58 (t := (.array .byte)) rfl rfl rfl rfl (by decide) (by decide) ?_
  exact ⟨b2, cA3, hq7, hq8, hq9, hq10, rfl, KK, sz_b2, A_b2⟩
theorem pn_rb20 : plainName "java/lang/StringUTF16" = true := by first | (simp [plainName, overriddenIn]; done) | decide +kernel
set_option maxRecDepth 65536 in
set_option maxHeartbeats 40000000 in
theorem rb20 (l : Launch) (Z : State) (a0 : Array Value) (hw : ∀ d ∈ tables_1, d.before a0 Z = true) (cs : Int32) (SCS : Sta Z Z.heap "java/lang/String" "COMPACT_STRINGS" "Z" (.int cs)) (hcs : ¬ cs = (0 : Int32)) (d0 d1 d2 d3 d4 : Int32) (lo0 : 0 ≤ d0.toInt) (hi0 : d0.toInt ≤ 255) (lo1 : 0 ≤ d1.toInt) (hi1 : d1.toInt ≤ 255) (lo2 : 0 ≤ d2.toInt) (hi2 : d2.toInt ≤ 255) (lo3 : 0 ≤ d3.toInt) (hi3 : d3.toInt ≤ 255) (lo4 : 0 ≤ d4.toInt) (hi4 : d4.toInt ≤ 255) (ad0 : Addr) (cA_ad0 : ClassId) (h0 : Heap) (A_ad0 : Arx Z h0 ad0 cA_ad0 .byte (4 : Int32) [(.int (nar .byte (((nar .char d0)).toInt8.toInt32))), (.int (nar .byte (((nar .char d1)).toInt8.toInt32))), (.int (nar .byte (((nar .char d2)).toInt8.toInt32))), (.int (nar .byte (((nar .char d3)).toInt8.toInt32)))] (.int (0 : Int32)) "[B") (g_ad0 : Z.heap.size ≤ ad0) (OL : Old Z Z.heap.size h0) :
    Met l Z (⟨"java/lang/StringUTF16", "coderFromArrayLen", "([BI)B"⟩ : MethodName) jdk_52_method_15_code 2 (some .byte) ({ frames := 0, cells := 0, slots := 0, locals := 0 } : Room) #[(.ref ad0), (.int (4 : Int32))] h0 (fun v h' => (v = some (.int (0 : Int32)) ∧ h0 = h')) := by
  refine met_of (Ls := #[.val (.ref ad0), .val (.int (4 : Int32))]) (plainFor_of_name pn_rb20) (fun m => by first | (simp [entryFrame, mkF, argsToLocals, Value.category]; done) | rfl) (fun p e s m below meth c cx => ?_)
  have KK := Keep.refl h0 []
  refine g_iloadN cx d8_0 rfl ?_
  refine g_aloadN cx d8_1 rfl rfl ?_
  refine g_arraylength cx d8_2 A_ad0.1 ?_
  refine g_isub cx d8_3 ?_
  refine G.cast (st' := [(.int (0 : Int32))]) ?_ rfl
  refine g_bipush cx d8_4 (v := (31 : Int32)) rfl ?_
  refine g_iushr cx d8_6 ?_
  refine G.cast (st' := [(.int (0 : Int32))]) ?_ rfl
  refine g_i2b cx d8_7 ?_
  refine G.cast (st' := [(.int (0 : Int32))]) ?_ rfl
  refine g_retN cx d8_8 (t := .byte) rfl (by simp) (by decide) (by decide) ?_
  exact ⟨rfl, rfl⟩
theorem pn_rb17 : plainName "java/lang/String" = true := by first | (simp [plainName, overriddenIn]; done) | decide +kernel
set_option maxRecDepth 65536 in
set_option maxHeartbeats 40000000 in
theorem rb17 (l : Launch) (Z : State) (a0 : Array Value) (hw : ∀ d ∈ tables_1, d.before a0 Z = true) (cs : Int32) (SCS : Sta Z Z.heap "java/lang/String" "COMPACT_STRINGS" "Z" (.int cs)) (hcs : ¬ cs = (0 : Int32)) (d0 d1 d2 d3 d4 : Int32) (lo0 : 0 ≤ d0.toInt) (hi0 : d0.toInt ≤ 255) (lo1 : 0 ≤ d1.toInt) (hi1 : d1.toInt ≤ 255) (lo2 : 0 ≤ d2.toInt) (hi2 : d2.toInt ≤ 255) (lo3 : 0 ≤ d3.toInt) (hi3 : d3.toInt ≤ 255) (lo4 : 0 ≤ d4.toInt) (hi4 : d4.toInt ≤ 255) (ad0 ad1 : Addr) (cA_ad1 : ClassId) (h0 : Heap) (O_ad0 : ObT Z h0 ad0 (.int (0 : Int32)) .null) (A_ad1 : Arx Z h0 ad1 cA_ad1 .char (4 : Int32) [(.int (nar .char d0)), (.int (nar .char d1)), (.int (nar .char d2)), (.int (nar .char d3))] (.int (0 : Int32)) "[C") (ne_ad0_ad1 : ad0 ≠ ad1) (g_ad0 : Z.heap.size ≤ ad0) (g_ad1 : Z.heap.size ≤ ad1) (OL : Old Z Z.heap.size h0) :
    Met l Z (⟨"java/lang/String", "<init>", "([CIILjava/lang/Void;)V"⟩ : MethodName) jdk_42_method_149_code 6 none ({ frames := 2, cells := 1, slots := 4, locals := 35 } : Room) #[(.ref ad0), (.ref ad1), (.int (0 : Int32)), (.int (4 : Int32)), .null] h0 (fun v h' => (∃ (b1 : Addr) (cA2 : ClassId) , ¬ (cs = (0 : Int32)) ∧ ¬ ((255 : Int32) < (nar .char d0)) ∧ ¬ ((255 : Int32) < (nar .char d1)) ∧ ¬ ((255 : Int32) < (nar .char d2)) ∧ ¬ ((255 : Int32) < (nar .char d3)) ∧ v = none ∧ Keep h0 h' [ad0] ∧ h0.size ≤ b1 ∧ Arx Z h' b1 cA2 .byte (4 : Int32) [(.int (nar .byte (((nar .char d0)).toInt8.toInt32))), (.int (nar .byte (((nar .char d1)).toInt8.toInt32))), (.int (nar .byte (((nar .char d2)).toInt8.toInt32))), (.int (nar .byte (((nar .char d3)).toInt8.toInt32)))] (.int (0 : Int32)) "[B" ∧ ObT Z h' ad0 (.int (0 : Int32)) (.ref b1))) := by
  refine met_of (Ls := #[.val (.ref ad0), .val (.ref ad1), .val (.int (0 : Int32)), .val (.int (4 : Int32)), .val .null, .unset]) (plainFor_of_name pn_rb17) (fun m => by first | (simp [entryFrame, mkF, argsToLocals, Value.category]; done) | rfl) (fun p e s m below meth c cx => ?_)
  have KK := Keep.refl h0 [ad0]
  refine g_aloadN cx d4_0 rfl rfl ?_
  refine g_initO cx d4_1 (hw _ (List.mem_of_getElem? (i := 18) rfl)) (hw _ (List.mem_of_getElem? (i := 19) rfl)) (hw _ (List.mem_of_getElem? (i := 20) rfl)) rfl (by decide) (W := 0) (Nat.le_of_eq rfl) (by decide) ?_
  refine g_iloadN cx d4_4 rfl ?_
  refine g_if_ne cx d4_5 (fun hc5 => ?_) (fun q => absurd q (fun q => by revert q; decide))
  refine g_getS cx d4_27 (host := "") (Or.inl (hw _ (List.mem_of_getElem? (i := 21) rfl))) Via.refl (SCS.ext OL.2) ?_
  refine g_if_eq cx d4_30 (fun q => absurd q (fun q => hcs q)) (fun hc30 => ?_)
  refine g_aloadN cx d4_33 rfl rfl ?_
  refine g_iloadN cx d4_34 rfl ?_
  refine g_iloadN cx d4_35 rfl ?_
  refine g_static cx (y := (⟨"java/lang/StringUTF16", "compress", "([CII)[B"⟩ : MethodName)) d4_36 (hw _ (List.mem_of_getElem? (i := 22) rfl)) (hw _ (List.mem_of_getElem? (i := 23) rfl)) (hw _ (List.mem_of_getElem? (i := 24) rfl)) (hw _ (List.mem_of_getElem? (i := 25) rfl)) (by decide) (bytes := jdk_52_method_16_code) (maxL' := 6) (M := (rb18 l Z a0 hw cs SCS hcs d0 d1 d2 d3 d4 lo0 hi0 lo1 hi1 lo2 hi2 lo3 hi3 lo4 hi4 ad1 cA_ad1 _ A_ad1 g_ad1 OL)) rfl (lenOf pd_15 rfl) (by decide) (W := 0) (Nat.le_of_eq rfl) (by decide) (k' := 1) (n' := 4) rfl rfl (by decide) (by decide) (argsL := [(.ref ad1), (.int (0 : Int32)), (.int (4 : Int32))]) (rest := []) rfl (fun v9 h8 q10 => ?_)
  obtain ⟨b1, cA2, hq3, hq4, hq5, hq6, rfl, K7, sq_b1, A_b1⟩ := q10
  have ne_ad0_b1 : ad0 ≠ b1 := Nat.ne_of_lt (Nat.lt_of_lt_of_le O_ad0.lt sq_b1)
  have ne_ad1_b1 : ad1 ≠ b1 := Nat.ne_of_lt (Nat.lt_of_lt_of_le A_ad1.lt sq_b1)
  have g_b1 : Z.heap.size ≤ b1 := Nat.le_trans OL.2.1 sq_b1
  have sz_b1 := Nat.le_trans KK.1 sq_b1
  have O_ad0 := O_ad0.keep K7 nin0
  have A_ad1 := A_ad1.keep K7 nin0
  have OL := OL.keep K7 all0
  have KK := KK.trans K7 all0
  refine G.cast (st' := [(.ref b1)]) ?_ rfl
  refine g_astore cx d4_39 rfl (Ls' := #[.val (.ref ad0), .val (.ref ad1), .val (.int (0 : Int32)), .val (.int (4 : Int32)), .val .null, .val (.ref b1)]) rfl ?_
  refine g_aloadN cx d4_41 rfl rfl ?_
  refine g_aload cx d4_42 rfl rfl ?_
  refine g_iloadN cx d4_44 rfl ?_
  refine g_static cx (y := (⟨"java/lang/StringUTF16", "coderFromArrayLen", "([BI)B"⟩ : MethodName)) d4_45 (hw _ (List.mem_of_getElem? (i := 30) rfl)) (hw _ (List.mem_of_getElem? (i := 31) rfl)) (hw _ (List.mem_of_getElem? (i := 24) rfl)) (hw _ (List.mem_of_getElem? (i := 32) rfl)) (by decide) (bytes := jdk_52_method_15_code) (maxL' := 2) (M := (rb20 l Z a0 hw cs SCS hcs d0 d1 d2 d3 d4 lo0 hi0 lo1 hi1 lo2 hi2 lo3 hi3 lo4 hi4 b1 cA2 _ A_b1 g_b1 OL)) rfl (lenOf pd_16 rfl) (by decide) (W := 1) (Nat.le_of_eq rfl) (by decide) (k' := 1) (n' := 4) rfl rfl (by decide) (by decide) (argsL := [(.ref b1), (.int (4 : Int32))]) (rest := [(.ref ad0)]) rfl (fun v13 h12 q14 => ?_)
  obtain ⟨rfl, rfl⟩ := q14
  refine G.cast (st' := [(.int (0 : Int32)), (.ref ad0)]) ?_ rfl
  refine g_putFN cx d4_48 (hw _ (List.mem_of_getElem? (i := 33) rfl)) Via.refl O_ad0.2.1 O_ad0.1 (Or.inr ⟨(hw _ (List.mem_of_getElem? (i := 34) rfl)), rfl, rfl⟩) (hw _ (List.mem_of_getElem? (i := 9) rfl)) (ty := .byte) (v' := (.int (0 : Int32))) (by decide) rfl rfl g_ad0 (fun h15 W16 => ?_)
  have O_ad0 := O_ad0.put1 hw W16
  have A_ad1 := A_ad1.other W16 (Ne.symm ne_ad0_ad1)
  have A_b1 := A_b1.other W16 (Ne.symm ne_ad0_b1)
  have OL := OL.wr W16 g_ad0
  have KK := KK.wr W16 (Or.inl (List.mem_of_getElem? (i := 0) rfl))
  refine g_aloadN cx d4_51 rfl rfl ?_
  refine g_aload cx d4_52 rfl rfl ?_
  refine g_putF cx d4_54 (host := "") (Or.inl (hw _ (List.mem_of_getElem? (i := 35) rfl))) Via.refl O_ad0.2.2 O_ad0.1 (Or.inr ⟨(hw _ (List.mem_of_getElem? (i := 36) rfl)), rfl, rfl⟩) (hw _ (List.mem_of_getElem? (i := 9) rfl)) (ty := (.array .byte)) (by decide) rfl rfl g_ad0 (fun h17 W18 => ?_)
  have O_ad0 := O_ad0.put2 hw W18
  have A_ad1 := A_ad1.other W18 (Ne.symm ne_ad0_ad1)
  have A_b1 := A_b1.other W18 (Ne.symm ne_ad0_b1)
  have OL := OL.wr W18 g_ad0
  have KK := KK.wr W18 (Or.inl (List.mem_of_getElem? (i := 0) rfl))
  refine g_retV cx d4_57 rfl (by decide) (by decide) ?_
  exact ⟨b1, cA2, hc30, hq3, hq4, hq5, hq6, rfl, KK, sz_b1, A_b1, O_ad0⟩
theorem pn_rb16 : plainName "java/lang/String" = true := by first | (simp [plainName, overriddenIn]; done) | decide +kernel
set_option maxRecDepth 65536 in
set_option maxHeartbeats 40000000 in
theorem rb16 (l : Launch) (Z : State) (a0 : Array Value) (hw : ∀ d ∈ tables_1, d.before a0 Z = true) (cs : Int32) (SCS : Sta Z Z.heap "java/lang/String" "COMPACT_STRINGS" "Z" (.int cs)) (hcs : ¬ cs = (0 : Int32)) (d0 d1 d2 d3 d4 : Int32) (lo0 : 0 ≤ d0.toInt) (hi0 : d0.toInt ≤ 255) (lo1 : 0 ≤ d1.toInt) (hi1 : d1.toInt ≤ 255) (lo2 : 0 ≤ d2.toInt) (hi2 : d2.toInt ≤ 255) (lo3 : 0 ≤ d3.toInt) (hi3 : d3.toInt ≤ 255) (lo4 : 0 ≤ d4.toInt) (hi4 : d4.toInt ≤ 255) (ad0 ad1 : Addr) (cA_ad1 : ClassId) (h0 : Heap) (O_ad0 : ObT Z h0 ad0 (.int (0 : Int32)) .null) (A_ad1 : Arx Z h0 ad1 cA_ad1 .char (4 : Int32) [(.int (nar .char d0)), (.int (nar .char d1)), (.int (nar .char d2)), (.int (nar .char d3))] (.int (0 : Int32)) "[C") (ne_ad0_ad1 : ad0 ≠ ad1) (g_ad0 : Z.heap.size ≤ ad0) (g_ad1 : Z.heap.size ≤ ad1) (OL : Old Z Z.heap.size h0) :
    Met l Z (⟨"java/lang/String", "<init>", "([C)V"⟩ : MethodName) jdk_42_method_3_code 2 none ({ frames := 3, cells := 1, slots := 4, locals := 52 } : Room) #[(.ref ad0), (.ref ad1)] h0 (fun v h' => (∃ (b1 : Addr) (cA2 : ClassId) , ¬ (cs = (0 : Int32)) ∧ ¬ ((255 : Int32) < (nar .char d0)) ∧ ¬ ((255 : Int32) < (nar .char d1)) ∧ ¬ ((255 : Int32) < (nar .char d2)) ∧ ¬ ((255 : Int32) < (nar .char d3)) ∧ v = none ∧ Keep h0 h' [ad0] ∧ h0.size ≤ b1 ∧ Arx Z h' b1 cA2 .byte (4 : Int32) [(.int (nar .byte (((nar .char d0)).toInt8.toInt32))), (.int (nar .byte (((nar .char d1)).toInt8.toInt32))), (.int (nar .byte (((nar .char d2)).toInt8.toInt32))), (.int (nar .byte (((nar .char d3)).toInt8.toInt32)))] (.int (0 : Int32)) "[B" ∧ ObT Z h' ad0 (.int (0 : Int32)) (.ref b1))) := by
  refine met_of (Ls := #[.val (.ref ad0), .val (.ref ad1)]) (plainFor_of_name pn_rb16) (fun m => by first | (simp [entryFrame, mkF, argsToLocals, Value.category]; done) | rfl) (fun p e s m below meth c cx => ?_)
  have KK := Keep.refl h0 [ad0]
  refine g_aloadN cx d3_0 rfl rfl ?_
  refine g_aloadN cx d3_1 rfl rfl ?_
  refine g_iconst cx d3_2 (v := (0 : Int32)) rfl ?_
  refine g_aloadN cx d3_3 rfl rfl ?_
  refine g_arraylength cx d3_4 A_ad1.1 ?_
  refine g_aconst_null cx d3_5 ?_
  have lt_ad0 := O_ad0.lt
  refine g_special cx (y := (⟨"java/lang/String", "<init>", "([CIILjava/lang/Void;)V"⟩ : MethodName)) (a := ad0) d3_6 rfl rfl (hw _ (List.mem_of_getElem? (i := 14) rfl)) (hw _ (List.mem_of_getElem? (i := 15) rfl)) (hw _ (List.mem_of_getElem? (i := 10) rfl)) (hw _ (List.mem_of_getElem? (i := 17) rfl)) (by decide) (bytes := jdk_42_method_149_code) (maxL' := 6) (M := (rb17 l Z a0 hw cs SCS hcs d0 d1 d2 d3 d4 lo0 hi0 lo1 hi1 lo2 hi2 lo3 hi3 lo4 hi4 ad0 ad1 cA_ad1 _ O_ad0 A_ad1 ne_ad0_ad1 g_ad0 g_ad1 OL)) rfl (lenOf pd_17 rfl) (by decide) (W := 0) (Nat.le_of_eq rfl) (by decide) (k' := 1) (n' := 4) rfl rfl (by decide) (by decide) (argsL := [(.ref ad1), (.int (0 : Int32)), (.int (4 : Int32)), .null]) (rest := []) rfl (fun v10 h9 q11 => ?_)
  obtain ⟨b1, cA2, hq3, hq4, hq5, hq6, hq7, rfl, K8, sq_b1, A_b1, O_ad0⟩ := q11
  have ne_ad0_b1 : ad0 ≠ b1 := Nat.ne_of_lt (Nat.lt_of_lt_of_le lt_ad0 sq_b1)
  have ne_ad1_b1 : ad1 ≠ b1 := Nat.ne_of_lt (Nat.lt_of_lt_of_le A_ad1.lt sq_b1)
  have g_b1 : Z.heap.size ≤ b1 := Nat.le_trans OL.2.1 sq_b1
  have sz_b1 := Nat.le_trans KK.1 sq_b1
  have A_ad1 := A_ad1.keep K8 (ninS (Ne.symm ne_ad0_ad1) nin0)
  have OL := OL.keep K8 (allS g_ad0 all0)
  have KK := KK.trans K8 (allS (P := fun z => z ∈ _ ∨ _ ≤ z) (Or.inl (List.mem_of_getElem? (i := 0) rfl)) all0)
  refine G.cast (st' := []) ?_ rfl
  refine g_retV cx d3_9 rfl (by decide) (by decide) ?_
  exact ⟨b1, cA2, hq3, hq4, hq5, hq6, hq7, rfl, KK, sz_b1, A_b1, O_ad0⟩
theorem d2_101 : Dc method_4_code 101 (.invokespecial 38) 3 104 := ⟨by decide +kernel, rfl⟩
theorem d2_104 : Dc method_4_code 104 (.areturn) 1 105 := ⟨by decide +kernel, rfl⟩
theorem pn_rmbu4 : plainName "com/example/crisp_typedef/crisptypedef/SignificandIsZeroPinLaw" = true := by first | (simp [plainName, overriddenIn]; done) | decide +kernel
set_option maxRecDepth 65536 in
set_option maxHeartbeats 40000000 in
theorem rmbu4 (l : Launch) (Z : State) (a0 : Array Value) (hw : ∀ d ∈ tables_1, d.before a0 Z = true) (cs : Int32) (SCS : Sta Z Z.heap "java/lang/String" "COMPACT_STRINGS" "Z" (.int cs)) (hcs : ¬ cs = (0 : Int32)) (d0 d1 d2 d3 d4 : Int32) (lo0 : 0 ≤ d0.toInt) (hi0 : d0.toInt ≤ 255) (lo1 : 0 ≤ d1.toInt) (hi1 : d1.toInt ≤ 255) (lo2 : 0 ≤ d2.toInt) (hi2 : d2.toInt ≤ 255) (lo3 : 0 ≤ d3.toInt) (hi3 : d3.toInt ≤ 255) (lo4 : 0 ≤ d4.toInt) (hi4 : d4.toInt ≤ 255) (h0 : Heap) (OL : Old Z Z.heap.size h0) :
    Met l Z (⟨"com/example/crisp_typedef/crisptypedef/SignificandIsZeroPinLaw", "build", "(ICCCCC)Ljava/lang/String;"⟩ : MethodName) method_4_code 6 (some (.object "java/lang/String")) ({ frames := 4, cells := 3, slots := 12, locals := 66 } : Room) #[(.int (4 : Int32)), (.int d0), (.int d1), (.int d2), (.int d3), (.int d4)] h0 (fun v h' => ∃ tx : Addr, v = some (.ref tx) ∧ Keep h0 h' [] ∧ h0.size ≤ tx ∧ own_T Z h' h'.size tx (4 : Int32) (own_ch d0 d1 d2 d3 d4)) := by
  refine met_of (Ls := #[.val (.int (4 : Int32)), .val (.int d0), .val (.int d1), .val (.int d2), .val (.int d3), .val (.int d4)]) (plainFor_of_name pn_rmbu4) (fun m => by first | (simp [entryFrame, mkF, argsToLocals, Value.category]; done) | rfl) (fun p e s m below meth c cx => ?_)
  have KK := Keep.refl h0 []
  refine g_iloadN cx d2_0 rfl ?_
  refine g_iconst cx d2_1 (v := (1 : Int32)) rfl ?_
  refine g_icmp_ne cx d2_2 (fun hc2 => ?_) (fun q => absurd q (fun q => by revert q; decide))
  refine g_iloadN cx d2_20 rfl ?_
  refine g_iconst cx d2_21 (v := (2 : Int32)) rfl ?_
  refine g_icmp_ne cx d2_22 (fun hc22 => ?_) (fun q => absurd q (fun q => by revert q; decide))
  refine g_iloadN cx d2_44 rfl ?_
  refine g_iconst cx d2_45 (v := (3 : Int32)) rfl ?_
  refine g_icmp_ne cx d2_46 (fun hc46 => ?_) (fun q => absurd q (fun q => by revert q; decide))
  refine g_iloadN cx d2_72 rfl ?_
  refine g_iconst cx d2_73 (v := (4 : Int32)) rfl ?_
  refine g_icmp_ne cx d2_74 (fun q => absurd q (fun q => by revert q; decide)) (fun hc74 => ?_)
  refine g_new cx d2_77 (hw _ (List.mem_of_getElem? (i := 8) rfl)) (hw _ (List.mem_of_getElem? (i := 9) rfl)) (hw _ (List.mem_of_getElem? (i := 10) rfl)) (k' := 1) (n' := 4) rfl rfl (by decide) (by decide) (fun h1 b2 gb3 E4 X5 D6 => ?_)
  have g_b2 : Z.heap.size ≤ b2 := by rw [gb3]; exact OL.2.1
  have sz_b2 := (by rw [gb3]; exact KK.1 : h0.size ≤ b2)
  have OL := OL.ext E4
  have KK := KK.ext E4
  have O_b2 := ObT.new hw X5 D6
  refine g_dup cx d2_80 rfl ?_
  refine g_iconst cx d2_81 (v := (4 : Int32)) rfl ?_
  refine g_newarray cx (ad := "[C") (by decide) d2_82 (hw _ (List.mem_of_getElem? (i := 4) rfl)) (by decide) (cap := 4) (by decide) (by decide) (k' := 2) (n' := 8) rfl rfl (by decide) (by decide) (fun h7 b8 cA9 gb10 E11 X12 => ?_)
  have ne_b2_b8 : b2 ≠ b8 := Nat.ne_of_lt (by rw [gb10]; exact O_b2.lt)
  have g_b8 : Z.heap.size ≤ b8 := by rw [gb10]; exact OL.2.1
  have sz_b8 := (by rw [gb10]; exact KK.1 : h0.size ≤ b8)
  have O_b2 := O_b2.ext E11
  have OL := OL.ext E11
  have KK := KK.ext E11
  have A_b8 : Arx Z h7 b8 cA9 .char (4 : Int32) [(.int (0 : Int32)), (.int (0 : Int32)), (.int (0 : Int32)), (.int (0 : Int32))] (.int (0 : Int32)) "[C" := X12.pad (pad_rep [] (.int (0 : Int32)) 4)
  refine g_dup cx d2_84 rfl ?_
  refine g_iconst cx d2_85 (v := (0 : Int32)) rfl ?_
  refine g_iloadN cx d2_86 rfl ?_
  refine g_castore cx d2_87 A_b8 ⟨by decide, by decide⟩ (Nat.le_of_ble_eq_true rfl) g_b8 (fun h13 W14 AA15 => ?_)
  have O_b2 := O_b2.oth W14 ne_b2_b8
  have A_b8 : Arx Z h13 b8 cA9 .char (4 : Int32) [(.int (nar .char d0)), (.int (0 : Int32)), (.int (0 : Int32)), (.int (0 : Int32))] (.int (0 : Int32)) "[C" := AA15
  have OL := OL.wr W14 g_b8
  have KK := KK.wr W14 (Or.inr sz_b8)
  refine g_dup cx d2_88 rfl ?_
  refine g_iconst cx d2_89 (v := (1 : Int32)) rfl ?_
  refine g_iloadN cx d2_90 rfl ?_
  refine g_castore cx d2_91 A_b8 ⟨by decide, by decide⟩ (Nat.le_of_ble_eq_true rfl) g_b8 (fun h16 W17 AA18 => ?_)
  have O_b2 := O_b2.oth W17 ne_b2_b8
  have A_b8 : Arx Z h16 b8 cA9 .char (4 : Int32) [(.int (nar .char d0)), (.int (nar .char d1)), (.int (0 : Int32)), (.int (0 : Int32))] (.int (0 : Int32)) "[C" := AA18
  have OL := OL.wr W17 g_b8
  have KK := KK.wr W17 (Or.inr sz_b8)
  refine g_dup cx d2_92 rfl ?_
  refine g_iconst cx d2_93 (v := (2 : Int32)) rfl ?_
  refine g_iloadN cx d2_94 rfl ?_
  refine g_castore cx d2_95 A_b8 ⟨by decide, by decide⟩ (Nat.le_of_ble_eq_true rfl) g_b8 (fun h19 W20 AA21 => ?_)
  have O_b2 := O_b2.oth W20 ne_b2_b8
  have A_b8 : Arx Z h19 b8 cA9 .char (4 : Int32) [(.int (nar .char d0)), (.int (nar .char d1)), (.int (nar .char d2)), (.int (0 : Int32))] (.int (0 : Int32)) "[C" := AA21
  have OL := OL.wr W20 g_b8
  have KK := KK.wr W20 (Or.inr sz_b8)
  refine g_dup cx d2_96 rfl ?_
  refine g_iconst cx d2_97 (v := (3 : Int32)) rfl ?_
  refine g_iload cx d2_98 rfl ?_
  refine g_castore cx d2_100 A_b8 ⟨by decide, by decide⟩ (Nat.le_of_ble_eq_true rfl) g_b8 (fun h22 W23 AA24 => ?_)
  have O_b2 := O_b2.oth W23 ne_b2_b8
  have A_b8 : Arx Z h22 b8 cA9 .char (4 : Int32) [(.int (nar .char d0)), (.int (nar .char d1)), (.int (nar .char d2)), (.int (nar .char d3))] (.int (0 : Int32)) "[C" := AA24
  have OL := OL.wr W23 g_b8
  have KK := KK.wr W23 (Or.inr sz_b8)
  have lt_b2 := O_b2.lt
  refine g_special cx (y := (⟨"java/lang/String", "<init>", "([C)V"⟩ : MethodName)) (a := b2) d2_101 rfl rfl (hw _ (List.mem_of_getElem? (i := 11) rfl)) (hw _ (List.mem_of_getElem? (i := 12) rfl)) (hw _ (List.mem_of_getElem? (i := 10) rfl)) (hw _ (List.mem_of_getElem? (i := 13) rfl)) (by decide) (bytes := jdk_42_method_3_code) (maxL' := 2) (M := (rb16 l Z a0 hw cs SCS hcs d0 d1 d2 d3 d4 lo0 hi0 lo1 hi1 lo2 hi2 lo3 hi3 lo4 hi4 b2 b8 cA9 _ O_b2 A_b8 ne_b2_b8 g_b2 g_b8 OL)) rfl (lenOf pd_18 rfl) (by decide) (W := 1) (Nat.le_of_eq rfl) (by decide) (k' := 3) (n' := 12) rfl rfl (by decide) (by decide) (argsL := [(.ref b8)]) (rest := [(.ref b2)]) rfl (fun v34 h33 q35 => ?_)
  obtain ⟨b25, cA26, hq27, hq28, hq29, hq30, hq31, rfl, K32, sq_b25, A_b25, O_b2⟩ := q35
  have ne_b2_b25 : b2 ≠ b25 := Nat.ne_of_lt (Nat.lt_of_lt_of_le lt_b2 sq_b25)
  have ne_b8_b25 : b8 ≠ b25 := Nat.ne_of_lt (Nat.lt_of_lt_of_le A_b8.lt sq_b25)
  have g_b25 : Z.heap.size ≤ b25 := Nat.le_trans OL.2.1 sq_b25
  have sz_b25 := Nat.le_trans KK.1 sq_b25
  have A_b8 := A_b8.keep K32 (ninS (Ne.symm ne_b2_b8) nin0)
  have OL := OL.keep K32 (allS g_b2 all0)
  have KK := KK.trans K32 (allS (P := fun z => z ∈ _ ∨ _ ≤ z) (Or.inr sz_b2) all0)
  refine G.cast (st' := [(.ref b2)]) ?_ rfl
  refine g_retA cx d2_104 (t := (.object "java/lang/String")) rfl rfl rfl rfl (by decide) (by decide) ?_
  have q0 : ((nar .byte (((nar .char d0)).toInt8.toInt32)) &&& (255 : Int32)) = d0 := Int32.toInt_inj.mp (by
    have r5 := rng32 d0
    have e4 : (((nar .char d0)).toInt - (d0).toInt) % 65536 = 0 ∧ 0 ≤ ((nar .char d0)).toInt ∧ ((nar .char d0)).toInt < 65536 := c_i2c d0
    have e3 := c_i2b (nar .char d0)
    have e2 : (((nar .byte (((nar .char d0)).toInt8.toInt32))).toInt - ((((nar .char d0)).toInt8.toInt32)).toInt) % 256 = 0 ∧ -128 ≤ ((nar .byte (((nar .char d0)).toInt8.toInt32))).toInt ∧ ((nar .byte (((nar .char d0)).toInt8.toInt32))).toInt < 128 := c_i2b (((nar .char d0)).toInt8.toInt32)
    have e1 : (((nar .byte (((nar .char d0)).toInt8.toInt32)) &&& (255 : Int32))).toInt = ((nar .byte (((nar .char d0)).toInt8.toInt32))).toInt % 256 := c_mask (nar .byte (((nar .char d0)).toInt8.toInt32)) (255 : Int32) 8 (by decide) (by decide)
    omega)
  have q1 : ((nar .byte (((nar .char d1)).toInt8.toInt32)) &&& (255 : Int32)) = d1 := Int32.toInt_inj.mp (by
    have r5 := rng32 d1
    have e4 : (((nar .char d1)).toInt - (d1).toInt) % 65536 = 0 ∧ 0 ≤ ((nar .char d1)).toInt ∧ ((nar .char d1)).toInt < 65536 := c_i2c d1
    have e3 := c_i2b (nar .char d1)
    have e2 : (((nar .byte (((nar .char d1)).toInt8.toInt32))).toInt - ((((nar .char d1)).toInt8.toInt32)).toInt) % 256 = 0 ∧ -128 ≤ ((nar .byte (((nar .char d1)).toInt8.toInt32))).toInt ∧ ((nar .byte (((nar .char d1)).toInt8.toInt32))).toInt < 128 := c_i2b (((nar .char d1)).toInt8.toInt32)
    have e1 : (((nar .byte (((nar .char d1)).toInt8.toInt32)) &&& (255 : Int32))).toInt = ((nar .byte (((nar .char d1)).toInt8.toInt32))).toInt % 256 := c_mask (nar .byte (((nar .char d1)).toInt8.toInt32)) (255 : Int32) 8 (by decide) (by decide)
    omega)
  have q2 : ((nar .byte (((nar .char d2)).toInt8.toInt32)) &&& (255 : Int32)) = d2 := Int32.toInt_inj.mp (by
    have r5 := rng32 d2
    have e4 : (((nar .char d2)).toInt - (d2).toInt) % 65536 = 0 ∧ 0 ≤ ((nar .char d2)).toInt ∧ ((nar .char d2)).toInt < 65536 := c_i2c d2
    have e3 := c_i2b (nar .char d2)
    have e2 : (((nar .byte (((nar .char d2)).toInt8.toInt32))).toInt - ((((nar .char d2)).toInt8.toInt32)).toInt) % 256 = 0 ∧ -128 ≤ ((nar .byte (((nar .char d2)).toInt8.toInt32))).toInt ∧ ((nar .byte (((nar .char d2)).toInt8.toInt32))).toInt < 128 := c_i2b (((nar .char d2)).toInt8.toInt32)
    have e1 : (((nar .byte (((nar .char d2)).toInt8.toInt32)) &&& (255 : Int32))).toInt = ((nar .byte (((nar .char d2)).toInt8.toInt32))).toInt % 256 := c_mask (nar .byte (((nar .char d2)).toInt8.toInt32)) (255 : Int32) 8 (by decide) (by decide)
    omega)
  have q3 : ((nar .byte (((nar .char d3)).toInt8.toInt32)) &&& (255 : Int32)) = d3 := Int32.toInt_inj.mp (by
    have r5 := rng32 d3
    have e4 : (((nar .char d3)).toInt - (d3).toInt) % 65536 = 0 ∧ 0 ≤ ((nar .char d3)).toInt ∧ ((nar .char d3)).toInt < 65536 := c_i2c d3
    have e3 := c_i2b (nar .char d3)
    have e2 : (((nar .byte (((nar .char d3)).toInt8.toInt32))).toInt - ((((nar .char d3)).toInt8.toInt32)).toInt) % 256 = 0 ∧ -128 ≤ ((nar .byte (((nar .char d3)).toInt8.toInt32))).toInt ∧ ((nar .byte (((nar .char d3)).toInt8.toInt32))).toInt < 128 := c_i2b (((nar .char d3)).toInt8.toInt32)
    have e1 : (((nar .byte (((nar .char d3)).toInt8.toInt32)) &&& (255 : Int32))).toInt = ((nar .byte (((nar .char d3)).toInt8.toInt32))).toInt % 256 := c_mask (nar .byte (((nar .char d3)).toInt8.toInt32)) (255 : Int32) 8 (by decide) (by decide)
    omega)
  refine ⟨b2, rfl, KK, sz_b2, b25, cA26, own_ch (nar .byte (((nar .char d0)).toInt8.toInt32)) (nar .byte (((nar .char d1)).toInt8.toInt32)) (nar .byte (((nar .char d2)).toInt8.toInt32)) (nar .byte (((nar .char d3)).toInt8.toInt32)) (0 : Int32), O_b2.lt, A_b25.lt, Nat.le_refl _, by decide, by decide, O_b2, A_b25, fun j hj => ?_⟩
  have hj : j < 4 := hj
  match j, hj with
  | 0, _ => exact ⟨q0, lo0, hi0⟩
  | 1, _ => exact ⟨q1, lo1, hi1⟩
  | 2, _ => exact ⟨q2, lo2, hi2⟩
  | 3, _ => exact ⟨q3, lo3, hi3⟩
theorem d2_105 : Dc method_4_code 105 (.new 36) 3 108 := ⟨by decide +kernel, rfl⟩
theorem d2_108 : Dc method_4_code 108 (.dup) 1 109 := ⟨by decide +kernel, rfl⟩
theorem d2_109 : Dc method_4_code 109 (.iconst 5) 1 110 := ⟨by decide +kernel, rfl⟩
theorem d2_110 : Dc method_4_code 110 (.newarray .char) 2 112 := ⟨by decide +kernel, rfl⟩
theorem d2_112 : Dc method_4_code 112 (.dup) 1 113 := ⟨by decide +kernel, rfl⟩
theorem d2_113 : Dc method_4_code 113 (.iconst 0) 1 114 := ⟨by decide +kernel, rfl⟩
theorem d2_114 : Dc method_4_code 114 (.iload_n 1) 1 115 := ⟨by decide +kernel, rfl⟩
theorem d2_115 : Dc method_4_code 115 (.castore) 1 116 := ⟨by decide +kernel, rfl⟩
theorem d2_116 : Dc method_4_code 116 (.dup) 1 117 := ⟨by decide +kernel, rfl⟩
theorem d2_117 : Dc method_4_code 117 (.iconst 1) 1 118 := ⟨by decide +kernel, rfl⟩
theorem d2_118 : Dc method_4_code 118 (.iload_n 2) 1 119 := ⟨by decide +kernel, rfl⟩
theorem d2_119 : Dc method_4_code 119 (.castore) 1 120 := ⟨by decide +kernel, rfl⟩
theorem d2_120 : Dc method_4_code 120 (.dup) 1 121 := ⟨by decide +kernel, rfl⟩
theorem d2_121 : Dc method_4_code 121 (.iconst 2) 1 122 := ⟨by decide +kernel, rfl⟩
theorem d2_122 : Dc method_4_code 122 (.iload_n 3) 1 123 := ⟨by decide +kernel, rfl⟩
theorem d2_123 : Dc method_4_code 123 (.castore) 1 124 := ⟨by decide +kernel, rfl⟩
theorem d2_124 : Dc method_4_code 124 (.dup) 1 125 := ⟨by decide +kernel, rfl⟩
theorem d2_125 : Dc method_4_code 125 (.iconst 3) 1 126 := ⟨by decide +kernel, rfl⟩
theorem d2_126 : Dc method_4_code 126 (.iload 4) 2 128 := ⟨by decide +kernel, rfl⟩
theorem d2_128 : Dc method_4_code 128 (.castore) 1 129 := ⟨by decide +kernel, rfl⟩
theorem d2_129 : Dc method_4_code 129 (.dup) 1 130 := ⟨by decide +kernel, rfl⟩
theorem d2_130 : Dc method_4_code 130 (.iconst 4) 1 131 := ⟨by decide +kernel, rfl⟩
theorem d2_131 : Dc method_4_code 131 (.iload 5) 2 133 := ⟨by decide +kernel, rfl⟩
theorem d2_133 : Dc method_4_code 133 (.castore) 1 134 := ⟨by decide +kernel, rfl⟩
theorem pn_rb24 : plainName "java/lang/StringUTF16" = true := by first | (simp [plainName, overriddenIn]; done) | decide +kernel
set_option maxRecDepth 65536 in
set_option maxHeartbeats 40000000 in
theorem rb24 (l : Launch) (Z : State) (a0 : Array Value) (hw : ∀ d ∈ tables_1, d.before a0 Z = true) (cs : Int32) (SCS : Sta Z Z.heap "java/lang/String" "COMPACT_STRINGS" "Z" (.int cs)) (hcs : ¬ cs = (0 : Int32)) (d0 d1 d2 d3 d4 : Int32) (lo0 : 0 ≤ d0.toInt) (hi0 : d0.toInt ≤ 255) (lo1 : 0 ≤ d1.toInt) (hi1 : d1.toInt ≤ 255) (lo2 : 0 ≤ d2.toInt) (hi2 : d2.toInt ≤ 255) (lo3 : 0 ≤ d3.toInt) (hi3 : d3.toInt ≤ 255) (lo4 : 0 ≤ d4.toInt) (hi4 : d4.toInt ≤ 255) (ad0 ad1 : Addr) (cA_ad0 : ClassId) (cA_ad1 : ClassId) (h0 : Heap) (A_ad0 : Arx Z h0 ad0 cA_ad0 .char (5 : Int32) [(.int (nar .char d0)), (.int (nar .char d1)), (.int (nar .char d2)), (.int (nar .char d3)), (.int (nar .char d4))] (.int (0 : Int32)) "[C") (A_ad1 : Arx Z h0 ad1 cA_ad1 .byte (5 : Int32) [(.int (0 : Int32)), (.int (0 : Int32)), (.int (0 : Int32)), (.int (0 : Int32)), (.int (0 : Int32))] (.int (0 : Int32)) "[B") (ne_ad0_ad1 : ad0 ≠ ad1) (g_ad0 : Z.heap.size ≤ ad0) (g_ad1 : Z.heap.size ≤ ad1) (OL : Old Z Z.heap.size h0) :
    Met l Z (⟨"java/lang/StringUTF16", "compress", "([CI[BII)I"⟩ : MethodName) jdk_52_method_21_code 7 (some .int) ({ frames := 0, cells := 0, slots := 0, locals := 0 } : Room) #[(.ref ad0), (.int (0 : Int32)), (.ref ad1), (.int (0 : Int32)), (.int (5 : Int32))] h0 (fun v h' => (¬ ((255 : Int32) < (nar .char d0)) ∧ ¬ ((255 : Int32) < (nar .char d1)) ∧ ¬ ((255 : Int32) < (nar .char d2)) ∧ ¬ ((255 : Int32) < (nar .char d3)) ∧ ¬ ((255 : Int32) < (nar .char d4)) ∧ v = some (.int (5 : Int32)) ∧ Keep h0 h' [ad1] ∧ Arx Z h' ad1 cA_ad1 .byte (5 : Int32) [(.int (nar .byte (((nar .char d0)).toInt8.toInt32))), (.int (nar .byte (((nar .char d1)).toInt8.toInt32))), (.int (nar .byte (((nar .char d2)).toInt8.toInt32))), (.int (nar .byte (((nar .char d3)).toInt8.toInt32))), (.int (nar .byte (((nar .char d4)).toInt8.toInt32)))] (.int (0 : Int32)) "[B")) := by
  refine met_of (Ls := #[.val (.ref ad0), .val (.int (0 : Int32)), .val (.ref ad1), .val (.int (0 : Int32)), .val (.int (5 : Int32)), .unset, .unset]) (plainFor_of_name pn_rb24) (fun m => by first | (simp [entryFrame, mkF, argsToLocals, Value.category]; done) | rfl) (fun p e s m below meth c cx => ?_)
  have KK := Keep.refl h0 [ad1]
  refine g_iconst cx d7_0 (v := (0 : Int32)) rfl ?_
  refine g_istore cx d7_1 (Ls' := #[.val (.ref ad0), .val (.int (0 : Int32)), .val (.ref ad1), .val (.int (0 : Int32)), .val (.int (5 : Int32)), .val (.int (0 : Int32)), .unset]) rfl ?_
  refine g_iload cx d7_3 rfl ?_
  refine g_iload cx d7_5 rfl ?_
  refine g_icmp_ge cx d7_7 (fun q => absurd q (fun q => by revert q; decide)) (fun hc7 => ?_)
  refine g_aloadN cx d7_10 rfl rfl ?_
  refine g_iloadN cx d7_11 rfl ?_
  refine g_caload cx d7_12 A_ad0.1 ⟨by decide, by decide⟩ (v := (.int (nar .char d0))) rfl ?_
  refine g_istore cx d7_13 (Ls' := #[.val (.ref ad0), .val (.int (0 : Int32)), .val (.ref ad1), .val (.int (0 : Int32)), .val (.int (5 : Int32)), .val (.int (0 : Int32)), .val (.int (nar .char d0))]) rfl ?_
  refine g_iload cx d7_15 rfl ?_
  refine g_sipush cx d7_17 (v := (255 : Int32)) rfl ?_
  refine g_icmp_le cx d7_20 (fun hc20 => ?_) (fun q => absurd q (fun q => by have i_q : ((255 : Int32)).toInt < ((nar .char d0)).toInt := Int32.lt_iff_toInt_lt.mp q; have e1 : (255 : Int32).toInt = 255 := rfl; have r3 := rng32 d0; have e2 : (((nar .char d0)).toInt - (d0).toInt) % 65536 = 0 ∧ 0 ≤ ((nar .char d0)).toInt ∧ ((nar .char d0)).toInt < 65536 := c_i2c d0; omega))
  refine g_aloadN cx d7_26 rfl rfl ?_
  refine g_iloadN cx d7_27 rfl ?_
  refine g_iload cx d7_28 rfl ?_
  refine g_i2b cx d7_30 ?_
  refine g_bastore cx d7_31 A_ad1 ⟨by decide, by decide⟩ (Nat.le_of_ble_eq_true rfl) g_ad1 (fun h1 W2 AA3 => ?_)
  have A_ad0 := A_ad0.other W2 ne_ad0_ad1
  have A_ad1 : Arx Z h1 ad1 cA_ad1 .byte (5 : Int32) [(.int (nar .byte (((nar .char d0)).toInt8.toInt32))), (.int (0 : Int32)), (.int (0 : Int32)), (.int (0 : Int32)), (.int (0 : Int32))] (.int (0 : Int32)) "[B" := AA3
  have OL := OL.wr W2 g_ad1
  have KK := KK.wr W2 (Or.inl (List.mem_of_getElem? (i := 0) rfl))
  refine g_iinc cx d7_32 rfl (v := (1 : Int32)) rfl (Ls' := #[.val (.ref ad0), .val (.int (1 : Int32)), .val (.ref ad1), .val (.int (0 : Int32)), .val (.int (5 : Int32)), .val (.int (0 : Int32)), .val (.int (nar .char d0))]) rfl ?_
  refine g_iinc cx d7_35 rfl (v := (1 : Int32)) rfl (Ls' := #[.val (.ref ad0), .val (.int (1 : Int32)), .val (.ref ad1), .val (.int (1 : Int32)), .val (.int (5 : Int32)), .val (.int (0 : Int32)), .val (.int (nar .char d0))]) rfl ?_
  refine g_iinc cx d7_38 rfl (v := (1 : Int32)) rfl (Ls' := #[.val (.ref ad0), .val (.int (1 : Int32)), .val (.ref ad1), .val (.int (1 : Int32)), .val (.int (5 : Int32)), .val (.int (1 : Int32)), .val (.int (nar .char d0))]) rfl ?_
  refine g_goto cx d7_41 ?_
  refine g_iload cx d7_3 rfl ?_
  refine g_iload cx d7_5 rfl ?_
  refine g_icmp_ge cx d7_7 (fun q => absurd q (fun q => by revert q; decide)) (fun hc7x => ?_)
  refine g_aloadN cx d7_10 rfl rfl ?_
  refine g_iloadN cx d7_11 rfl ?_
  refine g_caload cx d7_12 A_ad0.1 ⟨by decide, by decide⟩ (v := (.int (nar .char d1))) rfl ?_
  refine g_istore cx d7_13 (Ls' := #[.val (.ref ad0), .val (.int (1 : Int32)), .val (.ref ad1), .val (.int (1 : Int32)), .val (.int (5 : Int32)), .val (.int (1 : Int32)), .val (.int (nar .char d1))]) rfl ?_
  refine g_iload cx d7_15 rfl ?_
  refine g_sipush cx d7_17 (v := (255 : Int32)) rfl ?_
  refine g_icmp_le cx d7_20 (fun hc20x => ?_) (fun q => absurd q (fun q => by have i_q : ((255 : Int32)).toInt < ((nar .char d1)).toInt := Int32.lt_iff_toInt_lt.mp q; have e1 : (255 : Int32).toInt = 255 := rfl; have r3 := rng32 d1; have e2 : (((nar .char d1)).toInt - (d1).toInt) % 65536 = 0 ∧ 0 ≤ ((nar .char d1)).toInt ∧ ((nar .char d1)).toInt < 65536 := c_i2c d1; omega))
  refine g_aloadN cx d7_26 rfl rfl ?_
  refine g_iloadN cx d7_27 rfl ?_
  refine g_iload cx d7_28 rfl ?_
  refine g_i2b cx d7_30 ?_
  refine g_bastore cx d7_31 A_ad1 ⟨by decide, by decide⟩ (Nat.le_of_ble_eq_true rfl) g_ad1 (fun h4 W5 AA6 => ?_)
  have A_ad0 := A_ad0.other W5 ne_ad0_ad1
  have A_ad1 : Arx Z h4 ad1 cA_ad1 .byte (5 : Int32) [(.int (nar .byte (((nar .char d0)).toInt8.toInt32))), (.int (nar .byte (((nar .char d1)).toInt8.toInt32))), (.int (0 : Int32)), (.int (0 : Int32)), (.int (0 : Int32))] (.int (0 : Int32)) "[B" := AA6
  have OL := OL.wr W5 g_ad1
  have KK := KK.wr W5 (Or.inl (List.mem_of_getElem? (i := 0) rfl))
  refine g_iinc cx d7_32 rfl (v := (1 : Int32)) rfl (Ls' := #[.val (.ref ad0), .val (.int (2 : Int32)), .val (.ref ad1), .val (.int (1 : Int32)), .val (.int (5 : Int32)), .val (.int (1 : Int32)), .val (.int (nar .char d1))]) rfl ?_
  refine g_iinc cx d7_35 rfl (v := (1 : Int32)) rfl (Ls' := #[.val (.ref ad0), .val (.int (2 : Int32)), .val (.ref ad1), .val (.int (2 : Int32)), .val (.int (5 : Int32)), .val (.int (1 : Int32)), .val (.int (nar .char d1))]) rfl ?_
  refine g_iinc cx d7_38 rfl (v := (1 : Int32)) rfl (Ls' := #[.val (.ref ad0), .val (.int (2 : Int32)), .val (.ref ad1), .val (.int (2 : Int32)), .val (.int (5 : Int32)), .val (.int (2 : Int32)), .val (.int (nar .char d1))]) rfl ?_
  refine g_goto cx d7_41 ?_
  refine g_iload cx d7_3 rfl ?_
  refine g_iload cx d7_5 rfl ?_
  refine g_icmp_ge cx d7_7 (fun q => absurd q (fun q => by revert q; decide)) (fun hc7xx => ?_)
  refine g_aloadN cx d7_10 rfl rfl ?_
  refine g_iloadN cx d7_11 rfl ?_
  refine g_caload cx d7_12 A_ad0.1 ⟨by decide, by decide⟩ (v := (.int (nar .char d2))) rfl ?_
  refine g_istore cx d7_13 (Ls' := #[.val (.ref ad0), .val (.int (2 : Int32)), .val (.ref ad1), .val (.int (2 : Int32)), .val (.int (5 : Int32)), .val (.int (2 : Int32)), .val (.int (nar .char d2))]) rfl ?_
  refine g_iload cx d7_15 rfl ?_
  refine g_sipush cx d7_17 (v := (255 : Int32)) rfl ?_
  refine g_icmp_le cx d7_20 (fun hc20xx => ?_) (fun q => absurd q (fun q => by have i_q : ((255 : Int32)).toInt < ((nar .char d2)).toInt := Int32.lt_iff_toInt_lt.mp q; have e1 : (255 : Int32).toInt = 255 := rfl; have r3 := rng32 d2; have e2 : (((nar .char d2)).toInt - (d2).toInt) % 65536 = 0 ∧ 0 ≤ ((nar .char d2)).toInt ∧ ((nar .char d2)).toInt < 65536 := c_i2c d2; omega))
  refine g_aloadN cx d7_26 rfl rfl ?_
  refine g_iloadN cx d7_27 rfl ?_
  refine g_iload cx d7_28 rfl ?_
  refine g_i2b cx d7_30 ?_
  refine g_bastore cx d7_31 A_ad1 ⟨by decide, by decide⟩ (Nat.le_of_ble_eq_true rfl) g_ad1 (fun h7 W8 AA9 => ?_)
  have A_ad0 := A_ad0.other W8 ne_ad0_ad1
  have A_ad1 : Arx Z h7 ad1 cA_ad1 .byte (5 : Int32) [(.int (nar .byte (((nar .char d0)).toInt8.toInt32))), (.int (nar .byte (((nar .char d1)).toInt8.toInt32))), (.int (nar .byte (((nar .char d2)).toInt8.toInt32))), (.int (0 : Int32)), (.int (0 : Int32))] (.int (0 : Int32)) "[B" := AA9
  have OL := OL.wr W8 g_ad1
  have KK := KK.wr W8 (Or.inl (List.mem_of_getElem? (i := 0) rfl))
  refine g_iinc cx d7_32 rfl (v := (1 : Int32)) rfl (Ls' := #[.val (.ref ad0), .val (.int (3 : Int32)), .val (.ref ad1), .val (.int (2 : Int32)), .val (.int (5 : Int32)), .val (.int (2 : Int32)), .val (.int (nar .char d2))]) rfl ?_
  refine g_iinc cx d7_35 rfl (v := (1 : Int32)) rfl (Ls' := #[.val (.ref ad0), .val (.int (3 : Int32)), .val (.ref ad1), .val (.int (3 : Int32)), .val (.int (5 : Int32)), .val (.int (2 : Int32)), .val (.int (nar .char d2))]) rfl ?_
  refine g_iinc cx d7_38 rfl (v := (1 : Int32)) rfl (Ls' := #[.val (.ref ad0), .val (.int (3 : Int32)), .val (.ref ad1), .val (.int (3 : Int32)), .val (.int (5 : Int32)), .val (.int (3 : Int32)), .val (.int (nar .char d2))]) rfl ?_
  refine g_goto cx d7_41 ?_
  refine g_iload cx d7_3 rfl ?_
  refine g_iload cx d7_5 rfl ?_
  refine g_icmp_ge cx d7_7 (fun q => absurd q (fun q => by revert q; decide)) (fun hc7xxx => ?_)
  refine g_aloadN cx d7_10 rfl rfl ?_
  refine g_iloadN cx d7_11 rfl ?_
  refine g_caload cx d7_12 A_ad0.1 ⟨by decide, by decide⟩ (v := (.int (nar .char d3))) rfl ?_
  refine g_istore cx d7_13 (Ls' := #[.val (.ref ad0), .val (.int (3 : Int32)), .val (.ref ad1), .val (.int (3 : Int32)), .val (.int (5 : Int32)), .val (.int (3 : Int32)), .val (.int (nar .char d3))]) rfl ?_
  refine g_iload cx d7_15 rfl ?_
  refine g_sipush cx d7_17 (v := (255 : Int32)) rfl ?_
  refine g_icmp_le cx d7_20 (fun hc20xxx => ?_) (fun q => absurd q (fun q => by have i_q : ((255 : Int32)).toInt < ((nar .char d3)).toInt := Int32.lt_iff_toInt_lt.mp q; have e1 : (255 : Int32).toInt = 255 := rfl; have r3 := rng32 d3; have e2 : (((nar .char d3)).toInt - (d3).toInt) % 65536 = 0 ∧ 0 ≤ ((nar .char d3)).toInt ∧ ((nar .char d3)).toInt < 65536 := c_i2c d3; omega))
  refine g_aloadN cx d7_26 rfl rfl ?_
  refine g_iloadN cx d7_27 rfl ?_
  refine g_iload cx d7_28 rfl ?_
  refine g_i2b cx d7_30 ?_
  refine g_bastore cx d7_31 A_ad1 ⟨by decide, by decide⟩ (Nat.le_of_ble_eq_true rfl) g_ad1 (fun h10 W11 AA12 => ?_)
  have A_ad0 := A_ad0.other W11 ne_ad0_ad1
  have A_ad1 : Arx Z h10 ad1 cA_ad1 .byte (5 : Int32) [(.int (nar .byte (((nar .char d0)).toInt8.toInt32))), (.int (nar .byte (((nar .char d1)).toInt8.toInt32))), (.int (nar .byte (((nar .char d2)).toInt8.toInt32))), (.int (nar .byte (((nar .char d3)).toInt8.toInt32))), (.int (0 : Int32))] (.int (0 : Int32)) "[B" := AA12
  have OL := OL.wr W11 g_ad1
  have KK := KK.wr W11 (Or.inl (List.mem_of_getElem? (i := 0) rfl))
  refine g_iinc cx d7_32 rfl (v := (1 : Int32)) rfl (Ls' := #[.val (.ref ad0), .val (.int (4 : Int32)), .val (.ref ad1), .val (.int (3 : Int32)), .val (.int (5 : Int32)), .val (.int (3 : Int32)), .val (.int (nar .char d3))]) rfl ?_
  refine g_iinc cx d7_35 rfl (v := (1 : Int32)) rfl (Ls' := #[.val (.ref ad0), .val (.int (4 : Int32)), .val (.ref ad1), .val (.int (4 : Int32)), .val (.int (5 : Int32)), .val (.int (3 : Int32)), .val (.int (nar .char d3))]) rfl ?_
  refine g_iinc cx d7_38 rfl (v := (1 : Int32)) rfl (Ls' := #[.val (.ref ad0), .val (.int (4 : Int32)), .val (.ref ad1), .val (.int (4 : Int32)), .val (.int (5 : Int32)), .val (.int (4 : Int32)), .val (.int (nar .char d3))]) rfl ?_
  refine g_goto cx d7_41 ?_
  refine g_iload cx d7_3 rfl ?_
  refine g_iload cx d7_5 rfl ?_
  refine g_icmp_ge cx d7_7 (fun q => absurd q (fun q => by revert q; decide)) (fun hc7xxxx => ?_)
  refine g_aloadN cx d7_10 rfl rfl ?_
  refine g_iloadN cx d7_11 rfl ?_
  refine g_caload cx d7_12 A_ad0.1 ⟨by decide, by decide⟩ (v := (.int (nar .char d4))) rfl ?_
  refine g_istore cx d7_13 (Ls' := #[.val (.ref ad0), .val (.int (4 : Int32)), .val (.ref ad1), .val (.int (4 : Int32)), .val (.int (5 : Int32)), .val (.int (4 : Int32)), .val (.int (nar .char d4))]) rfl ?_
  refine g_iload cx d7_15 rfl ?_
  refine g_sipush cx d7_17 (v := (255 : Int32)) rfl ?_
  refine g_icmp_le cx d7_20 (fun hc20xxxx => ?_) (fun q => absurd q (fun q => by have i_q : ((255 : Int32)).toInt < ((nar .char d4)).toInt := Int32.lt_iff_toInt_lt.mp q; have e1 : (255 : Int32).toInt = 255 := rfl; have r3 := rng32 d4; have e2 : (((nar .char d4)).toInt - (d4).toInt) % 65536 = 0 ∧ 0 ≤ ((nar .char d4)).toInt ∧ ((nar .char d4)).toInt < 65536 := c_i2c d4; omega))
  refine g_aloadN cx d7_26 rfl rfl ?_
  refine g_iloadN cx d7_27 rfl ?_
  refine g_iload cx d7_28 rfl ?_
  refine g_i2b cx d7_30 ?_
  refine g_bastore cx d7_31 A_ad1 ⟨by decide, by decide⟩ (Nat.le_of_ble_eq_true rfl) g_ad1 (fun h13 W14 AA15 => ?_)
  have A_ad0 := A_ad0.other W14 ne_ad0_ad1
  have A_ad1 : Arx Z h13 ad1 cA_ad1 .byte (5 : Int32) [(.int (nar .byte (((nar .char d0)).toInt8.toInt32))), (.int (nar .byte (((nar .char d1)).toInt8.toInt32))), (.int (nar .byte (((nar .char d2)).toInt8.toInt32))), (.int (nar .byte (((nar .char d3)).toInt8.toInt32))), (.int (nar .byte (((nar .char d4)).toInt8.toInt32)))] (.int (0 : Int32)) "[B" := AA15
  have OL := OL.wr W14 g_ad1
  have KK := KK.wr W14 (Or.inl (List.mem_of_getElem? (i := 0) rfl))
  refine g_iinc cx d7_32 rfl (v := (1 : Int32)) rfl (Ls' := #[.val (.ref ad0), .val (.int (5 : Int32)), .val (.ref ad1), .val (.int (4 : Int32)), .val (.int (5 : Int32)), .val (.int (4 : Int32)), .val (.int (nar .char d4))]) rfl ?_
  refine g_iinc cx d7_35 rfl (v := (1 : Int32)) rfl (Ls' := #[.val (.ref ad0), .val (.int (5 : Int32)), .val (.ref ad1), .val (.int (5 : Int32)), .val (.int (5 : Int32)), .val (.int (4 : Int32)), .val (.int (nar .char d4))]) rfl ?_
  refine g_iinc cx d7_38 rfl (v := (1 : Int32)) rfl (Ls' := #[.val (.ref ad0), .val (.int (5 : Int32)), .val (.ref ad1), .val (.int (5 : Int32)), .val (.int (5 : Int32)), .val (.int (5 : Int32)), .val (.int (nar .char d4))]) rfl ?_
  refine g_goto cx d7_41 ?_
  refine g_iload cx d7_3 rfl ?_
  refine g_iload cx d7_5 rfl ?_
  refine g_icmp_ge cx d7_7 (fun hc7xxxxx => ?_) (fun q => absurd q (fun q => by revert q; decide))
  refine g_iload cx d7_44 rfl ?_
  refine g_retI cx d7_46 rfl (by decide) (by decide) ?_
  exact ⟨hc20, hc20x, hc20xx, hc20xxx, hc20xxxx, rfl, KK, A_ad1⟩
theorem pn_rb23 : plainName "java/lang/StringUTF16" = true := by first | (simp [plainName, overriddenIn]; done) | decide +kernel
set_option maxRecDepth 65536 in
set_option maxHeartbeats 40000000 in
theorem rb23 (l : Launch) (Z : State) (a0 : Array Value) (hw : ∀ d ∈ tables_1, d.before a0 Z = true) (cs : Int32) (SCS : Sta Z Z.heap "java/lang/String" "COMPACT_STRINGS" "Z" (.int cs)) (hcs : ¬ cs = (0 : Int32)) (d0 d1 d2 d3 d4 : Int32) (lo0 : 0 ≤ d0.toInt) (hi0 : d0.toInt ≤ 255) (lo1 : 0 ≤ d1.toInt) (hi1 : d1.toInt ≤ 255) (lo2 : 0 ≤ d2.toInt) (hi2 : d2.toInt ≤ 255) (lo3 : 0 ≤ d3.toInt) (hi3 : d3.toInt ≤ 255) (lo4 : 0 ≤ d4.toInt) (hi4 : d4.toInt ≤ 255) (ad0 : Addr) (cA_ad0 : ClassId) (h0 : Heap) (A_ad0 : Arx Z h0 ad0 cA_ad0 .char (5 : Int32) [(.int (nar .char d0)), (.int (nar .char d1)), (.int (nar .char d2)), (.int (nar .char d3)), (.int (nar .char d4))] (.int (0 : Int32)) "[C") (g_ad0 : Z.heap.size ≤ ad0) (OL : Old Z Z.heap.size h0) :
    Met l Z (⟨"java/lang/StringUTF16", "compress", "([CII)[B"⟩ : MethodName) jdk_52_method_16_code 6 (some (.array .byte)) ({ frames := 1, cells := 1, slots := 5, locals := 18 } : Room) #[(.ref ad0), (.int (0 : Int32)), (.int (5 : Int32))] h0 (fun v h' => (∃ (b2 : Addr) (cA3 : ClassId) , ¬ ((255 : Int32) < (nar .char d0)) ∧ ¬ ((255 : Int32) < (nar .char d1)) ∧ ¬ ((255 : Int32) < (nar .char d2)) ∧ ¬ ((255 : Int32) < (nar .char d3)) ∧ ¬ ((255 : Int32) < (nar .char d4)) ∧ v = some (.ref b2) ∧ Keep h0 h' [] ∧ h0.size ≤ b2 ∧ Arx Z h' b2 cA3 .byte (5 : Int32) [(.int (nar .byte (((nar .char d0)).toInt8.toInt32))), (.int (nar .byte (((nar .char d1)).toInt8.toInt32))), (.int (nar .byte (((nar .char d2)).toInt8.toInt32))), (.int (nar .byte (((nar .char d3)).toInt8.toInt32))), (.int (nar .byte (((nar .char d4)).toInt8.toInt32)))] (.int (0 : Int32)) "[B")) := by
  refine met_of (Ls := #[.val (.ref ad0), .val (.int (0 : Int32)), .val (.int (5 : Int32)), .unset, .unset, .unset]) (plainFor_of_name pn_rb23) (fun m => by first | (simp [entryFrame, mkF, argsToLocals, Value.category]; done) | rfl) (fun p e s m below meth c cx => ?_)
  have KK := Keep.refl h0 []
  refine g_iloadN cx d6_0 rfl ?_
  refine g_newarray cx (ad := "[B") (by decide) d6_1 (hw _ (List.mem_of_getElem? (i := 26) rfl)) (by decide) (cap := 5) (by decide) (by decide) (k' := 1) (n' := 5) rfl rfl (by decide) (by decide) (fun h1 b2 cA3 gb4 E5 X6 => ?_)
  have ne_ad0_b2 : ad0 ≠ b2 := Nat.ne_of_lt (by rw [gb4]; exact A_ad0.lt)
  have g_b2 : Z.heap.size ≤ b2 := by rw [gb4]; exact OL.2.1
  have sz_b2 := (by rw [gb4]; exact KK.1 : h0.size ≤ b2)
  have A_ad0 := A_ad0.ext E5
  have OL := OL.ext E5
  have KK := KK.ext E5
  have A_b2 : Arx Z h1 b2 cA3 .byte (5 : Int32) [(.int (0 : Int32)), (.int (0 : Int32)), (.int (0 : Int32)), (.int (0 : Int32)), (.int (0 : Int32))] (.int (0 : Int32)) "[B" := X6.pad (pad_rep [] (.int (0 : Int32)) 5)
  refine g_astoreN cx d6_3 rfl (Ls' := #[.val (.ref ad0), .val (.int (0 : Int32)), .val (.int (5 : Int32)), .val (.ref b2), .unset, .unset]) rfl ?_
  refine g_aloadN cx d6_4 rfl rfl ?_
  refine g_iloadN cx d6_5 rfl ?_
  refine g_aloadN cx d6_6 rfl rfl ?_
  refine g_iconst cx d6_7 (v := (0 : Int32)) rfl ?_
  refine g_iloadN cx d6_8 rfl ?_
  refine g_static cx (y := (⟨"java/lang/StringUTF16", "compress", "([CI[BII)I"⟩ : MethodName)) d6_9 (hw _ (List.mem_of_getElem? (i := 27) rfl)) (hw _ (List.mem_of_getElem? (i := 28) rfl)) (hw _ (List.mem_of_getElem? (i := 24) rfl)) (hw _ (List.mem_of_getElem? (i := 29) rfl)) (by decide) (bytes := jdk_52_method_21_code) (maxL' := 7) (M := (rb24 l Z a0 hw cs SCS hcs d0 d1 d2 d3 d4 lo0 hi0 lo1 hi1 lo2 hi2 lo3 hi3 lo4 hi4 ad0 b2 cA_ad0 cA3 _ A_ad0 A_b2 ne_ad0_b2 g_ad0 g_b2 OL)) rfl (lenOf pd_14 rfl) (by decide) (W := 0) (Nat.le_of_eq rfl) (by decide) (k' := 1) (n' := 5) rfl rfl (by decide) (by decide) (argsL := [(.ref ad0), (.int (0 : Int32)), (.ref b2), (.int (0 : Int32)), (.int (5 : Int32))]) (rest := []) rfl (fun v14 h13 q15 => ?_)
  obtain ⟨hq7, hq8, hq9, hq10, hq11, rfl, K12, A_b2⟩ := q15
  have A_ad0 := A_ad0.keep K12 (ninS ne_ad0_b2 nin0)
  have OL := OL.keep K12 (allS g_b2 all0)
  have KK := KK.trans K12 (allS (P := fun z => z ∈ _ ∨ _ ≤ z) (Or.inr sz_b2) all0)
  refine G.cast (st' := [(.int (5 : Int32))]) ?_ rfl
  refine g_istore cx d6_12 (Ls' := #[.val (.ref ad0), .val (.int (0 : Int32)), .val (.int (5 : Int32)), .val (.ref b2), .val (.int (5 : Int32)), .unset]) rfl ?_
  refine g_iload cx d6_14 rfl ?_
  refine g_iloadN cx d6_16 rfl ?_
  refine g_icmp_eq cx d6_17 (fun hc17 => ?_) (fun q => absurd q (fun q => by revert q; decide))
  refine g_aloadN cx d6_57 rfl rfl ?_
  refine g_retA cx d6_58 (t := (.array .byte)) rfl rfl rfl rfl (by decide) (by decide) ?_
  exact ⟨b2, cA3, hq7, hq8, hq9, hq10, hq11, rfl, KK, sz_b2, A_b2⟩
theorem pn_rb25 : plainName "java/lang/StringUTF16" = true := by first | (simp [plainName, overriddenIn]; done) | decide +kernel
set_option maxRecDepth 65536 in
set_option maxHeartbeats 40000000 in
theorem rb25 (l : Launch) (Z : State) (a0 : Array Value) (hw : ∀ d ∈ tables_1, d.before a0 Z = true) (cs : Int32) (SCS : Sta Z Z.heap "java/lang/String" "COMPACT_STRINGS" "Z" (.int cs)) (hcs : ¬ cs = (0 : Int32)) (d0 d1 d2 d3 d4 : Int32) (lo0 : 0 ≤ d0.toInt) (hi0 : d0.toInt ≤ 255) (lo1 : 0 ≤ d1.toInt) (hi1 : d1.toInt ≤ 255) (lo2 : 0 ≤ d2.toInt) (hi2 : d2.toInt ≤ 255) (lo3 : 0 ≤ d3.toInt) (hi3 : d3.toInt ≤ 255) (lo4 : 0 ≤ d4.toInt) (hi4 : d4.toInt ≤ 255) (ad0 : Addr) (cA_ad0 : ClassId) (h0 : Heap) (A_ad0 : Arx Z h0 ad0 cA_ad0 .byte (5 : Int32) [(.int (nar .byte (((nar .char d0)).toInt8.toInt32))), (.int (nar .byte (((nar .char d1)).toInt8.toInt32))), (.int (nar .byte (((nar .char d2)).toInt8.toInt32))), (.int (nar .byte (((nar .char d3)).toInt8.toInt32))), (.int (nar .byte (((nar .char d4)).toInt8.toInt32)))] (.int (0 : Int32)) "[B") (g_ad0 : Z.heap.size ≤ ad0) (OL : Old Z Z.heap.size h0) :
    Met l Z (⟨"java/lang/StringUTF16", "coderFromArrayLen", "([BI)B"⟩ : MethodName) jdk_52_method_15_code 2 (some .byte) ({ frames := 0, cells := 0, slots := 0, locals := 0 } : Room) #[(.ref ad0), (.int (5 : Int32))] h0 (fun v h' => (v = some (.int (0 : Int32)) ∧ h0 = h')) := by
  refine met_of (Ls := #[.val (.ref ad0), .val (.int (5 : Int32))]) (plainFor_of_name pn_rb25) (fun m => by first | (simp [entryFrame, mkF, argsToLocals, Value.category]; done) | rfl) (fun p e s m below meth c cx => ?_)
  have KK := Keep.refl h0 []
  refine g_iloadN cx d8_0 rfl ?_
  refine g_aloadN cx d8_1 rfl rfl ?_
  refine g_arraylength cx d8_2 A_ad0.1 ?_
  refine g_isub cx d8_3 ?_
  refine G.cast (st' := [(.int (0 : Int32))]) ?_ rfl
  refine g_bipush cx d8_4 (v := (31 : Int32)) rfl ?_
  refine g_iushr cx d8_6 ?_
  refine G.cast (st' := [(.int (0 : Int32))]) ?_ rfl
  refine g_i2b cx d8_7 ?_
  refine G.cast (st' := [(.int (0 : Int32))]) ?_ rfl
  refine g_retN cx d8_8 (t := .byte) rfl (by simp) (by decide) (by decide) ?_
  exact ⟨rfl, rfl⟩
theorem pn_rb22 : plainName "java/lang/String" = true := by first | (simp [plainName, overriddenIn]; done) | decide +kernel
set_option maxRecDepth 65536 in
set_option maxHeartbeats 40000000 in
theorem rb22 (l : Launch) (Z : State) (a0 : Array Value) (hw : ∀ d ∈ tables_1, d.before a0 Z = true) (cs : Int32) (SCS : Sta Z Z.heap "java/lang/String" "COMPACT_STRINGS" "Z" (.int cs)) (hcs : ¬ cs = (0 : Int32)) (d0 d1 d2 d3 d4 : Int32) (lo0 : 0 ≤ d0.toInt) (hi0 : d0.toInt ≤ 255) (lo1 : 0 ≤ d1.toInt) (hi1 : d1.toInt ≤ 255) (lo2 : 0 ≤ d2.toInt) (hi2 : d2.toInt ≤ 255) (lo3 : 0 ≤ d3.toInt) (hi3 : d3.toInt ≤ 255) (lo4 : 0 ≤ d4.toInt) (hi4 : d4.toInt ≤ 255) (ad0 ad1 : Addr) (cA_ad1 : ClassId) (h0 : Heap) (O_ad0 : ObT Z h0 ad0 (.int (0 : Int32)) .null) (A_ad1 : Arx Z h0 ad1 cA_ad1 .char (5 : Int32) [(.int (nar .char d0)), (.int (nar .char d1)), (.int (nar .char d2)), (.int (nar .char d3)), (.int (nar .char d4))] (.int (0 : Int32)) "[C") (ne_ad0_ad1 : ad0 ≠ ad1) (g_ad0 : Z.heap.size ≤ ad0) (g_ad1 : Z.heap.size ≤ ad1) (OL : Old Z Z.heap.size h0) :
    Met l Z (⟨"java/lang/String", "<init>", "([CIILjava/lang/Void;)V"⟩ : MethodName) jdk_42_method_149_code 6 none ({ frames := 2, cells := 1, slots := 5, locals := 35 } : Room) #[(.ref ad0), (.ref ad1), (.int (0 : Int32)), (.int (5 : Int32)), .null] h0 (fun v h' => (∃ (b1 : Addr) (cA2 : ClassId) , ¬ (cs = (0 : Int32)) ∧ ¬ ((255 : Int32) < (nar .char d0)) ∧ ¬ ((255 : Int32) < (nar .char d1)) ∧ ¬ ((255 : Int32) < (nar .char d2)) ∧ ¬ ((255 : Int32) < (nar .char d3)) ∧ ¬ ((255 : Int32) < (nar .char d4)) ∧ v = none ∧ Keep h0 h' [ad0] ∧ h0.size ≤ b1 ∧ Arx Z h' b1 cA2 .byte (5 : Int32) [(.int (nar .byte (((nar .char d0)).toInt8.toInt32))), (.int (nar .byte (((nar .char d1)).toInt8.toInt32))), (.int (nar .byte (((nar .char d2)).toInt8.toInt32))), (.int (nar .byte (((nar .char d3)).toInt8.toInt32))), (.int (nar .byte (((nar .char d4)).toInt8.toInt32)))] (.int (0 : Int32)) "[B" ∧ ObT Z h' ad0 (.int (0 : Int32)) (.ref b1))) := by
  refine met_of (Ls := #[.val (.ref ad0), .val (.ref ad1), .val (.int (0 : Int32)), .val (.int (5 : Int32)), .val .null, .unset]) (plainFor_of_name pn_rb22) (fun m => by first | (simp [entryFrame, mkF, argsToLocals, Value.category]; done) | rfl) (fun p e s m below meth c cx => ?_)
  have KK := Keep.refl h0 [ad0]
  refine g_aloadN cx d4_0 rfl rfl ?_
  refine g_initO cx d4_1 (hw _ (List.mem_of_getElem? (i := 18) rfl)) (hw _ (List.mem_of_getElem? (i := 19) rfl)) (hw _ (List.mem_of_getElem? (i := 20) rfl)) rfl (by decide) (W := 0) (Nat.le_of_eq rfl) (by decide) ?_
  refine g_iloadN cx d4_4 rfl ?_
  refine g_if_ne cx d4_5 (fun hc5 => ?_) (fun q => absurd q (fun q => by revert q; decide))
  refine g_getS cx d4_27 (host := "") (Or.inl (hw _ (List.mem_of_getElem? (i := 21) rfl))) Via.refl (SCS.ext OL.2) ?_
  refine g_if_eq cx d4_30 (fun q => absurd q (fun q => hcs q)) (fun hc30 => ?_)
  refine g_aloadN cx d4_33 rfl rfl ?_
  refine g_iloadN cx d4_34 rfl ?_
  refine g_iloadN cx d4_35 rfl ?_
  refine g_static cx (y := (⟨"java/lang/StringUTF16", "compress", "([CII)[B"⟩ : MethodName)) d4_36 (hw _ (List.mem_of_getElem? (i := 22) rfl)) (hw _ (List.mem_of_getElem? (i := 23) rfl)) (hw _ (List.mem_of_getElem? (i := 24) rfl)) (hw _ (List.mem_of_getElem? (i := 25) rfl)) (by decide) (bytes := jdk_52_method_16_code) (maxL' := 6) (M := (rb23 l Z a0 hw cs SCS hcs d0 d1 d2 d3 d4 lo0 hi0 lo1 hi1 lo2 hi2 lo3 hi3 lo4 hi4 ad1 cA_ad1 _ A_ad1 g_ad1 OL)) rfl (lenOf pd_15 rfl) (by decide) (W := 0) (Nat.le_of_eq rfl) (by decide) (k' := 1) (n' := 5) rfl rfl (by decide) (by decide) (argsL := [(.ref ad1), (.int (0 : Int32)), (.int (5 : Int32))]) (rest := []) rfl (fun v10 h9 q11 => ?_)
  obtain ⟨b1, cA2, hq3, hq4, hq5, hq6, hq7, rfl, K8, sq_b1, A_b1⟩ := q11
  have ne_ad0_b1 : ad0 ≠ b1 := Nat.ne_of_lt (Nat.lt_of_lt_of_le O_ad0.lt sq_b1)
  have ne_ad1_b1 : ad1 ≠ b1 := Nat.ne_of_lt (Nat.lt_of_lt_of_le A_ad1.lt sq_b1)
  have g_b1 : Z.heap.size ≤ b1 := Nat.le_trans OL.2.1 sq_b1
  have sz_b1 := Nat.le_trans KK.1 sq_b1
  have O_ad0 := O_ad0.keep K8 nin0
  have A_ad1 := A_ad1.keep K8 nin0
  have OL := OL.keep K8 all0
  have KK := KK.trans K8 all0
  refine G.cast (st' := [(.ref b1)]) ?_ rfl
  refine g_astore cx d4_39 rfl (Ls' := #[.val (.ref ad0), .val (.ref ad1), .val (.int (0 : Int32)), .val (.int (5 : Int32)), .val .null, .val (.ref b1)]) rfl ?_
  refine g_aloadN cx d4_41 rfl rfl ?_
  refine g_aload cx d4_42 rfl rfl ?_
  refine g_iloadN cx d4_44 rfl ?_
  refine g_static cx (y := (⟨"java/lang/StringUTF16", "coderFromArrayLen", "([BI)B"⟩ : MethodName)) d4_45 (hw _ (List.mem_of_getElem? (i := 30) rfl)) (hw _ (List.mem_of_getElem? (i := 31) rfl)) (hw _ (List.mem_of_getElem? (i := 24) rfl)) (hw _ (List.mem_of_getElem? (i := 32) rfl)) (by decide) (bytes := jdk_52_method_15_code) (maxL' := 2) (M := (rb25 l Z a0 hw cs SCS hcs d0 d1 d2 d3 d4 lo0 hi0 lo1 hi1 lo2 hi2 lo3 hi3 lo4 hi4 b1 cA2 _ A_b1 g_b1 OL)) rfl (lenOf pd_16 rfl) (by decide) (W := 1) (Nat.le_of_eq rfl) (by decide) (k' := 1) (n' := 5) rfl rfl (by decide) (by decide) (argsL := [(.ref b1), (.int (5 : Int32))]) (rest := [(.ref ad0)]) rfl (fun v14 h13 q15 => ?_)
  obtain ⟨rfl, rfl⟩ := q15
  refine G.cast (st' := [(.int (0 : Int32)), (.ref ad0)]) ?_ rfl
  refine g_putFN cx d4_48 (hw _ (List.mem_of_getElem? (i := 33) rfl)) Via.refl O_ad0.2.1 O_ad0.1 (Or.inr ⟨(hw _ (List.mem_of_getElem? (i := 34) rfl)), rfl, rfl⟩) (hw _ (List.mem_of_getElem? (i := 9) rfl)) (ty := .byte) (v' := (.int (0 : Int32))) (by decide) rfl rfl g_ad0 (fun h16 W17 => ?_)
  have O_ad0 := O_ad0.put1 hw W17
  have A_ad1 := A_ad1.other W17 (Ne.symm ne_ad0_ad1)
  have A_b1 := A_b1.other W17 (Ne.symm ne_ad0_b1)
  have OL := OL.wr W17 g_ad0
  have KK := KK.wr W17 (Or.inl (List.mem_of_getElem? (i := 0) rfl))
  refine g_aloadN cx d4_51 rfl rfl ?_
  refine g_aload cx d4_52 rfl rfl ?_
  refine g_putF cx d4_54 (host := "") (Or.inl (hw _ (List.mem_of_getElem? (i := 35) rfl))) Via.refl O_ad0.2.2 O_ad0.1 (Or.inr ⟨(hw _ (List.mem_of_getElem? (i := 36) rfl)), rfl, rfl⟩) (hw _ (List.mem_of_getElem? (i := 9) rfl)) (ty := (.array .byte)) (by decide) rfl rfl g_ad0 (fun h18 W19 => ?_)
  have O_ad0 := O_ad0.put2 hw W19
  have A_ad1 := A_ad1.other W19 (Ne.symm ne_ad0_ad1)
  have A_b1 := A_b1.other W19 (Ne.symm ne_ad0_b1)
  have OL := OL.wr W19 g_ad0
  have KK := KK.wr W19 (Or.inl (List.mem_of_getElem? (i := 0) rfl))
  refine g_retV cx d4_57 rfl (by decide) (by decide) ?_
  exact ⟨b1, cA2, hc30, hq3, hq4, hq5, hq6, hq7, rfl, KK, sz_b1, A_b1, O_ad0⟩
theorem pn_rb21 : plainName "java/lang/String" = true := by first | (simp [plainName, overriddenIn]; done) | decide +kernel
set_option maxRecDepth 65536 in
set_option maxHeartbeats 40000000 in
theorem rb21 (l : Launch) (Z : State) (a0 : Array Value) (hw : ∀ d ∈ tables_1, d.before a0 Z = true) (cs : Int32) (SCS : Sta Z Z.heap "java/lang/String" "COMPACT_STRINGS" "Z" (.int cs)) (hcs : ¬ cs = (0 : Int32)) (d0 d1 d2 d3 d4 : Int32) (lo0 : 0 ≤ d0.toInt) (hi0 : d0.toInt ≤ 255) (lo1 : 0 ≤ d1.toInt) (hi1 : d1.toInt ≤ 255) (lo2 : 0 ≤ d2.toInt) (hi2 : d2.toInt ≤ 255) (lo3 : 0 ≤ d3.toInt) (hi3 : d3.toInt ≤ 255) (lo4 : 0 ≤ d4.toInt) (hi4 : d4.toInt ≤ 255) (ad0 ad1 : Addr) (cA_ad1 : ClassId) (h0 : Heap) (O_ad0 : ObT Z h0 ad0 (.int (0 : Int32)) .null) (A_ad1 : Arx Z h0 ad1 cA_ad1 .char (5 : Int32) [(.int (nar .char d0)), (.int (nar .char d1)), (.int (nar .char d2)), (.int (nar .char d3)), (.int (nar .char d4))] (.int (0 : Int32)) "[C") (ne_ad0_ad1 : ad0 ≠ ad1) (g_ad0 : Z.heap.size ≤ ad0) (g_ad1 : Z.heap.size ≤ ad1) (OL : Old Z Z.heap.size h0) :
    Met l Z (⟨"java/lang/String", "<init>", "([C)V"⟩ : MethodName) jdk_42_method_3_code 2 none ({ frames := 3, cells := 1, slots := 5, locals := 52 } : Room) #[(.ref ad0), (.ref ad1)] h0 (fun v h' => (∃ (b1 : Addr) (cA2 : ClassId) , ¬ (cs = (0 : Int32)) ∧ ¬ ((255 : Int32) < (nar .char d0)) ∧ ¬ ((255 : Int32) < (nar .char d1)) ∧ ¬ ((255 : Int32) < (nar .char d2)) ∧ ¬ ((255 : Int32) < (nar .char d3)) ∧ ¬ ((255 : Int32) < (nar .char d4)) ∧ v = none ∧ Keep h0 h' [ad0] ∧ h0.size ≤ b1 ∧ Arx Z h' b1 cA2 .byte (5 : Int32) [(.int (nar .byte (((nar .char d0)).toInt8.toInt32))), (.int (nar .byte (((nar .char d1)).toInt8.toInt32))), (.int (nar .byte (((nar .char d2)).toInt8.toInt32))), (.int (nar .byte (((nar .char d3)).toInt8.toInt32))), (.int (nar .byte (((nar .char d4)).toInt8.toInt32)))] (.int (0 : Int32)) "[B" ∧ ObT Z h' ad0 (.int (0 : Int32)) (.ref b1))) := by
  refine met_of (Ls := #[.val (.ref ad0), .val (.ref ad1)]) (plainFor_of_name pn_rb21) (fun m => by first | (simp [entryFrame, mkF, argsToLocals, Value.category]; done) | rfl) (fun p e s m below meth c cx => ?_)
  have KK := Keep.refl h0 [ad0]
  refine g_aloadN cx d3_0 rfl rfl ?_
  refine g_aloadN cx d3_1 rfl rfl ?_
  refine g_iconst cx d3_2 (v := (0 : Int32)) rfl ?_
  refine g_aloadN cx d3_3 rfl rfl ?_
  refine g_arraylength cx d3_4 A_ad1.1 ?_
  refine g_aconst_null cx d3_5 ?_
  have lt_ad0 := O_ad0.lt
  refine g_special cx (y := (⟨"java/lang/String", "<init>", "([CIILjava/lang/Void;)V"⟩ : MethodName)) (a := ad0) d3_6 rfl rfl (hw _ (List.mem_of_getElem? (i := 14) rfl)) (hw _ (List.mem_of_getElem? (i := 15) rfl)) (hw _ (List.mem_of_getElem? (i := 10) rfl)) (hw _ (List.mem_of_getElem? (i := 17) rfl)) (by decide) (bytes := jdk_42_method_149_code) (maxL' := 6) (M := (rb22 l Z a0 hw cs SCS hcs d0 d1 d2 d3 d4 lo0 hi0 lo1 hi1 lo2 hi2 lo3 hi3 lo4 hi4 ad0 ad1 cA_ad1 _ O_ad0 A_ad1 ne_ad0_ad1 g_ad0 g_ad1 OL)) rfl (lenOf pd_17 rfl) (by decide) (W := 0) (Nat.le_of_eq rfl) (by decide) (k' := 1) (n' := 5) rfl rfl (by decide) (by decide) (argsL := [(.ref ad1), (.int (0 : Int32)), (.int (5 : Int32)), .null]) (rest := []) rfl (fun v11 h10 q12 => ?_)
  obtain ⟨b1, cA2, hq3, hq4, hq5, hq6, hq7, hq8, rfl, K9, sq_b1, A_b1, O_ad0⟩ := q12
  have ne_ad0_b1 : ad0 ≠ b1 := Nat.ne_of_lt (Nat.lt_of_lt_of_le lt_ad0 sq_b1)
  have ne_ad1_b1 : ad1 ≠ b1 := Nat.ne_of_lt (Nat.lt_of_lt_of_le A_ad1.lt sq_b1)
  have g_b1 : Z.heap.size ≤ b1 := Nat.le_trans OL.2.1 sq_b1
  have sz_b1 := Nat.le_trans KK.1 sq_b1
  have A_ad1 := A_ad1.keep K9 (ninS (Ne.symm ne_ad0_ad1) nin0)
  have OL := OL.keep K9 (allS g_ad0 all0)
  have KK := KK.trans K9 (allS (P := fun z => z ∈ _ ∨ _ ≤ z) (Or.inl (List.mem_of_getElem? (i := 0) rfl)) all0)
  refine G.cast (st' := []) ?_ rfl
  refine g_retV cx d3_9 rfl (by decide) (by decide) ?_
  exact ⟨b1, cA2, hq3, hq4, hq5, hq6, hq7, hq8, rfl, KK, sz_b1, A_b1, O_ad0⟩
theorem d2_134 : Dc method_4_code 134 (.invokespecial 38) 3 137 := ⟨by decide +kernel, rfl⟩
theorem d2_137 : Dc method_4_code 137 (.areturn) 1 138 := ⟨by decide +kernel, rfl⟩
theorem pn_rmbu5 : plainName "com/example/crisp_typedef/crisptypedef/SignificandIsZeroPinLaw" = true := by first | (simp [plainName, overriddenIn]; done) | decide +kernel
set_option maxRecDepth 65536 in
set_option maxHeartbeats 40000000 in
theorem rmbu5 (l : Launch) (Z : State) (a0 : Array Value) (hw : ∀ d ∈ tables_1, d.before a0 Z = true) (cs : Int32) (SCS : Sta Z Z.heap "java/lang/String" "COMPACT_STRINGS" "Z" (.int cs)) (hcs : ¬ cs = (0 : Int32)) (d0 d1 d2 d3 d4 : Int32) (lo0 : 0 ≤ d0.toInt) (hi0 : d0.toInt ≤ 255) (lo1 : 0 ≤ d1.toInt) (hi1 : d1.toInt ≤ 255) (lo2 : 0 ≤ d2.toInt) (hi2 : d2.toInt ≤ 255) (lo3 : 0 ≤ d3.toInt) (hi3 : d3.toInt ≤ 255) (lo4 : 0 ≤ d4.toInt) (hi4 : d4.toInt ≤ 255) (h0 : Heap) (OL : Old Z Z.heap.size h0) :
    Met l Z (⟨"com/example/crisp_typedef/crisptypedef/SignificandIsZeroPinLaw", "build", "(ICCCCC)Ljava/lang/String;"⟩ : MethodName) method_4_code 6 (some (.object "java/lang/String")) ({ frames := 4, cells := 3, slots := 14, locals := 66 } : Room) #[(.int (5 : Int32)), (.int d0), (.int d1), (.int d2), (.int d3), (.int d4)] h0 (fun v h' => ∃ tx : Addr, v = some (.ref tx) ∧ Keep h0 h' [] ∧ h0.size ≤ tx ∧ own_T Z h' h'.size tx (5 : Int32) (own_ch d0 d1 d2 d3 d4)) := by
  refine met_of (Ls := #[.val (.int (5 : Int32)), .val (.int d0), .val (.int d1), .val (.int d2), .val (.int d3), .val (.int d4)]) (plainFor_of_name pn_rmbu5) (fun m => by first | (simp [entryFrame, mkF, argsToLocals, Value.category]; done) | rfl) (fun p e s m below meth c cx => ?_)
  have KK := Keep.refl h0 []
  refine g_iloadN cx d2_0 rfl ?_
  refine g_iconst cx d2_1 (v := (1 : Int32)) rfl ?_
  refine g_icmp_ne cx d2_2 (fun hc2 => ?_) (fun q => absurd q (fun q => by revert q; decide))
  refine g_iloadN cx d2_20 rfl ?_
  refine g_iconst cx d2_21 (v := (2 : Int32)) rfl ?_
  refine g_icmp_ne cx d2_22 (fun hc22 => ?_) (fun q => absurd q (fun q => by revert q; decide))
  refine g_iloadN cx d2_44 rfl ?_
  refine g_iconst cx d2_45 (v := (3 : Int32)) rfl ?_
  refine g_icmp_ne cx d2_46 (fun hc46 => ?_) (fun q => absurd q (fun q => by revert q; decide))
  refine g_iloadN cx d2_72 rfl ?_
  refine g_iconst cx d2_73 (v := (4 : Int32)) rfl ?_
  refine g_icmp_ne cx d2_74 (fun hc74 => ?_) (fun q => absurd q (fun q => by revert q; decide))
  refine g_new cx d2_105 (hw _ (List.mem_of_getElem? (i := 8) rfl)) (hw _ (List.mem_of_getElem? (i := 9) rfl)) (hw _ (List.mem_of_getElem? (i := 10) rfl)) (k' := 1) (n' := 4) rfl rfl (by decide) (by decide) (fun h1 b2 gb3 E4 X5 D6 => ?_)
  have g_b2 : Z.heap.size ≤ b2 := by rw [gb3]; exact OL.2.1
  have sz_b2 := (by rw [gb3]; exact KK.1 : h0.size ≤ b2)
  have OL := OL.ext E4
  have KK := KK.ext E4
  have O_b2 := ObT.new hw X5 D6
  refine g_dup cx d2_108 rfl ?_
  refine g_iconst cx d2_109 (v := (5 : Int32)) rfl ?_
  refine g_newarray cx (ad := "[C") (by decide) d2_110 (hw _ (List.mem_of_getElem? (i := 4) rfl)) (by decide) (cap := 5) (by decide) (by decide) (k' := 2) (n' := 9) rfl rfl (by decide) (by decide) (fun h7 b8 cA9 gb10 E11 X12 => ?_)
  have ne_b2_b8 : b2 ≠ b8 := Nat.ne_of_lt (by rw [gb10]; exact O_b2.lt)
  have g_b8 : Z.heap.size ≤ b8 := by rw [gb10]; exact OL.2.1
  have sz_b8 := (by rw [gb10]; exact KK.1 : h0.size ≤ b8)
  have O_b2 := O_b2.ext E11
  have OL := OL.ext E11
  have KK := KK.ext E11
  have A_b8 : Arx Z h7 b8 cA9 .char (5 : Int32) [(.int (0 : Int32)), (.int (0 : Int32)), (.int (0 : Int32)), (.int (0 : Int32)), (.int (0 : Int32))] (.int (0 : Int32)) "[C" := X12.pad (pad_rep [] (.int (0 : Int32)) 5)
  refine g_dup cx d2_112 rfl ?_
  refine g_iconst cx d2_113 (v := (0 : Int32)) rfl ?_
  refine g_iloadN cx d2_114 rfl ?_
  refine g_castore cx d2_115 A_b8 ⟨by decide, by decide⟩ (Nat.le_of_ble_eq_true rfl) g_b8 (fun h13 W14 AA15 => ?_)
  have O_b2 := O_b2.oth W14 ne_b2_b8
  have A_b8 : Arx Z h13 b8 cA9 .char (5 : Int32) [(.int (nar .char d0)), (.int (0 : Int32)), (.int (0 : Int32)), (.int (0 : Int32)), (.int (0 : Int32))] (.int (0 : Int32)) "[C" := AA15
  have OL := OL.wr W14 g_b8
  have KK := KK.wr W14 (Or.inr sz_b8)
  refine g_dup cx d2_116 rfl ?_
  refine g_iconst cx d2_117 (v := (1 : Int32)) rfl ?_
  refine g_iloadN cx d2_118 rfl ?_
  refine g_castore cx d2_119 A_b8 ⟨by decide, by decide⟩ (Nat.le_of_ble_eq_true rfl) g_b8 (fun h16 W17 AA18 => ?_)
  have O_b2 := O_b2.oth W17 ne_b2_b8
  have A_b8 : Arx Z h16 b8 cA9 .char (5 : Int32) [(.int (nar .char d0)), (.int (nar .char d1)), (.int (0 : Int32)), (.int (0 : Int32)), (.int (0 : Int32))] (.int (0 : Int32)) "[C" := AA18
  have OL := OL.wr W17 g_b8
  have KK := KK.wr W17 (Or.inr sz_b8)
  refine g_dup cx d2_120 rfl ?_
  refine g_iconst cx d2_121 (v := (2 : Int32)) rfl ?_
  refine g_iloadN cx d2_122 rfl ?_
  refine g_castore cx d2_123 A_b8 ⟨by decide, by decide⟩ (Nat.le_of_ble_eq_true rfl) g_b8 (fun h19 W20 AA21 => ?_)
  have O_b2 := O_b2.oth W20 ne_b2_b8
  have A_b8 : Arx Z h19 b8 cA9 .char (5 : Int32) [(.int (nar .char d0)), (.int (nar .char d1)), (.int (nar .char d2)), (.int (0 : Int32)), (.int (0 : Int32))] (.int (0 : Int32)) "[C" := AA21
  have OL := OL.wr W20 g_b8
  have KK := KK.wr W20 (Or.inr sz_b8)
  refine g_dup cx d2_124 rfl ?_
  refine g_iconst cx d2_125 (v := (3 : Int32)) rfl ?_
  refine g_iload cx d2_126 rfl ?_
  refine g_castore cx d2_128 A_b8 ⟨by decide, by decide⟩ (Nat.le_of_ble_eq_true rfl) g_b8 (fun h22 W23 AA24 => ?_)
  have O_b2 := O_b2.oth W23 ne_b2_b8
  have A_b8 : Arx Z h22 b8 cA9 .char (5 : Int32) [(.int (nar .char d0)), (.int (nar .char d1)), (.int (nar .char d2)), (.int (nar .char d3)), (.int (0 : Int32))] (.int (0 : Int32)) "[C" := AA24
  have OL := OL.wr W23 g_b8
  have KK := KK.wr W23 (Or.inr sz_b8)
  refine g_dup cx d2_129 rfl ?_
  refine g_iconst cx d2_130 (v := (4 : Int32)) rfl ?_
  refine g_iload cx d2_131 rfl ?_
  refine g_castore cx d2_133 A_b8 ⟨by decide, by decide⟩ (Nat.le_of_ble_eq_true rfl) g_b8 (fun h25 W26 AA27 => ?_)
  have O_b2 := O_b2.oth W26 ne_b2_b8
  have A_b8 : Arx Z h25 b8 cA9 .char (5 : Int32) [(.int (nar .char d0)), (.int (nar .char d1)), (.int (nar .char d2)), (.int (nar .char d3)), (.int (nar .char d4))] (.int (0 : Int32)) "[C" := AA27
  have OL := OL.wr W26 g_b8
  have KK := KK.wr W26 (Or.inr sz_b8)
  have lt_b2 := O_b2.lt
  refine g_special cx (y := (⟨"java/lang/String", "<init>", "([C)V"⟩ : MethodName)) (a := b2) d2_134 rfl rfl (hw _ (List.mem_of_getElem? (i := 11) rfl)) (hw _ (List.mem_of_getElem? (i := 12) rfl)) (hw _ (List.mem_of_getElem? (i := 10) rfl)) (hw _ (List.mem_of_getElem? (i := 13) rfl)) (by decide) (bytes := jdk_42_method_3_code) (maxL' := 2) (M := (rb21 l Z a0 hw cs SCS hcs d0 d1 d2 d3 d4 lo0 hi0 lo1 hi1 lo2 hi2 lo3 hi3 lo4 hi4 b2 b8 cA9 _ O_b2 A_b8 ne_b2_b8 g_b2 g_b8 OL)) rfl (lenOf pd_18 rfl) (by decide) (W := 1) (Nat.le_of_eq rfl) (by decide) (k' := 3) (n' := 14) rfl rfl (by decide) (by decide) (argsL := [(.ref b8)]) (rest := [(.ref b2)]) rfl (fun v38 h37 q39 => ?_)
  obtain ⟨b28, cA29, hq30, hq31, hq32, hq33, hq34, hq35, rfl, K36, sq_b28, A_b28, O_b2⟩ := q39
  have ne_b2_b28 : b2 ≠ b28 := Nat.ne_of_lt (Nat.lt_of_lt_of_le lt_b2 sq_b28)
  have ne_b8_b28 : b8 ≠ b28 := Nat.ne_of_lt (Nat.lt_of_lt_of_le A_b8.lt sq_b28)
  have g_b28 : Z.heap.size ≤ b28 := Nat.le_trans OL.2.1 sq_b28
  have sz_b28 := Nat.le_trans KK.1 sq_b28
  have A_b8 := A_b8.keep K36 (ninS (Ne.symm ne_b2_b8) nin0)
  have OL := OL.keep K36 (allS g_b2 all0)
  have KK := KK.trans K36 (allS (P := fun z => z ∈ _ ∨ _ ≤ z) (Or.inr sz_b2) all0)
  refine G.cast (st' := [(.ref b2)]) ?_ rfl
  refine g_retA cx d2_137 (t := (.object "java/lang/String")) rfl rfl rfl rfl (by decide) (by decide) ?_
  have q0 : ((nar .byte (((nar .char d0)).toInt8.toInt32)) &&& (255 : Int32)) = d0 := Int32.toInt_inj.mp (by
    have r5 := rng32 d0
    have e4 : (((nar .char d0)).toInt - (d0).toInt) % 65536 = 0 ∧ 0 ≤ ((nar .char d0)).toInt ∧ ((nar .char d0)).toInt < 65536 := c_i2c d0
    have e3 := c_i2b (nar .char d0)
    have e2 : (((nar .byte (((nar .char d0)).toInt8.toInt32))).toInt - ((((nar .char d0)).toInt8.toInt32)).toInt) % 256 = 0 ∧ -128 ≤ ((nar .byte (((nar .char d0)).toInt8.toInt32))).toInt ∧ ((nar .byte (((nar .char d0)).toInt8.toInt32))).toInt < 128 := c_i2b (((nar .char d0)).toInt8.toInt32)
    have e1 : (((nar .byte (((nar .char d0)).toInt8.toInt32)) &&& (255 : Int32))).toInt = ((nar .byte (((nar .char d0)).toInt8.toInt32))).toInt % 256 := c_mask (nar .byte (((nar .char d0)).toInt8.toInt32)) (255 : Int32) 8 (by decide) (by decide)
    omega)
  have q1 : ((nar .byte (((nar .char d1)).toInt8.toInt32)) &&& (255 : Int32)) = d1 := Int32.toInt_inj.mp (by
    have r5 := rng32 d1
    have e4 : (((nar .char d1)).toInt - (d1).toInt) % 65536 = 0 ∧ 0 ≤ ((nar .char d1)).toInt ∧ ((nar .char d1)).toInt < 65536 := c_i2c d1
    have e3 := c_i2b (nar .char d1)
    have e2 : (((nar .byte (((nar .char d1)).toInt8.toInt32))).toInt - ((((nar .char d1)).toInt8.toInt32)).toInt) % 256 = 0 ∧ -128 ≤ ((nar .byte (((nar .char d1)).toInt8.toInt32))).toInt ∧ ((nar .byte (((nar .char d1)).toInt8.toInt32))).toInt < 128 := c_i2b (((nar .char d1)).toInt8.toInt32)
    have e1 : (((nar .byte (((nar .char d1)).toInt8.toInt32)) &&& (255 : Int32))).toInt = ((nar .byte (((nar .char d1)).toInt8.toInt32))).toInt % 256 := c_mask (nar .byte (((nar .char d1)).toInt8.toInt32)) (255 : Int32) 8 (by decide) (by decide)
    omega)
  have q2 : ((nar .byte (((nar .char d2)).toInt8.toInt32)) &&& (255 : Int32)) = d2 := Int32.toInt_inj.mp (by
    have r5 := rng32 d2
    have e4 : (((nar .char d2)).toInt - (d2).toInt) % 65536 = 0 ∧ 0 ≤ ((nar .char d2)).toInt ∧ ((nar .char d2)).toInt < 65536 := c_i2c d2
    have e3 := c_i2b (nar .char d2)
    have e2 : (((nar .byte (((nar .char d2)).toInt8.toInt32))).toInt - ((((nar .char d2)).toInt8.toInt32)).toInt) % 256 = 0 ∧ -128 ≤ ((nar .byte (((nar .char d2)).toInt8.toInt32))).toInt ∧ ((nar .byte (((nar .char d2)).toInt8.toInt32))).toInt < 128 := c_i2b (((nar .char d2)).toInt8.toInt32)
    have e1 : (((nar .byte (((nar .char d2)).toInt8.toInt32)) &&& (255 : Int32))).toInt = ((nar .byte (((nar .char d2)).toInt8.toInt32))).toInt % 256 := c_mask (nar .byte (((nar .char d2)).toInt8.toInt32)) (255 : Int32) 8 (by decide) (by decide)
    omega)
  have q3 : ((nar .byte (((nar .char d3)).toInt8.toInt32)) &&& (255 : Int32)) = d3 := Int32.toInt_inj.mp (by
    have r5 := rng32 d3
    have e4 : (((nar .char d3)).toInt - (d3).toInt) % 65536 = 0 ∧ 0 ≤ ((nar .char d3)).toInt ∧ ((nar .char d3)).toInt < 65536 := c_i2c d3
    have e3 := c_i2b (nar .char d3)
    have e2 : (((nar .byte (((nar .char d3)).toInt8.toInt32))).toInt - ((((nar .char d3)).toInt8.toInt32)).toInt) % 256 = 0 ∧ -128 ≤ ((nar .byte (((nar .char d3)).toInt8.toInt32))).toInt ∧ ((nar .byte (((nar .char d3)).toInt8.toInt32))).toInt < 128 := c_i2b (((nar .char d3)).toInt8.toInt32)
    have e1 : (((nar .byte (((nar .char d3)).toInt8.toInt32)) &&& (255 : Int32))).toInt = ((nar .byte (((nar .char d3)).toInt8.toInt32))).toInt % 256 := c_mask (nar .byte (((nar .char d3)).toInt8.toInt32)) (255 : Int32) 8 (by decide) (by decide)
    omega)
  have q4 : ((nar .byte (((nar .char d4)).toInt8.toInt32)) &&& (255 : Int32)) = d4 := Int32.toInt_inj.mp (by
    have r5 := rng32 d4
    have e4 : (((nar .char d4)).toInt - (d4).toInt) % 65536 = 0 ∧ 0 ≤ ((nar .char d4)).toInt ∧ ((nar .char d4)).toInt < 65536 := c_i2c d4
    have e3 := c_i2b (nar .char d4)
    have e2 : (((nar .byte (((nar .char d4)).toInt8.toInt32))).toInt - ((((nar .char d4)).toInt8.toInt32)).toInt) % 256 = 0 ∧ -128 ≤ ((nar .byte (((nar .char d4)).toInt8.toInt32))).toInt ∧ ((nar .byte (((nar .char d4)).toInt8.toInt32))).toInt < 128 := c_i2b (((nar .char d4)).toInt8.toInt32)
    have e1 : (((nar .byte (((nar .char d4)).toInt8.toInt32)) &&& (255 : Int32))).toInt = ((nar .byte (((nar .char d4)).toInt8.toInt32))).toInt % 256 := c_mask (nar .byte (((nar .char d4)).toInt8.toInt32)) (255 : Int32) 8 (by decide) (by decide)
    omega)
  refine ⟨b2, rfl, KK, sz_b2, b28, cA29, own_ch (nar .byte (((nar .char d0)).toInt8.toInt32)) (nar .byte (((nar .char d1)).toInt8.toInt32)) (nar .byte (((nar .char d2)).toInt8.toInt32)) (nar .byte (((nar .char d3)).toInt8.toInt32)) (nar .byte (((nar .char d4)).toInt8.toInt32)), O_b2.lt, A_b28.lt, Nat.le_refl _, by decide, by decide, O_b2, A_b28, fun j hj => ?_⟩
  have hj : j < 5 := hj
  match j, hj with
  | 0, _ => exact ⟨q0, lo0, hi0⟩
  | 1, _ => exact ⟨q1, lo1, hi1⟩
  | 2, _ => exact ⟨q2, lo2, hi2⟩
  | 3, _ => exact ⟨q3, lo3, hi3⟩
  | 4, _ => exact ⟨q4, lo4, hi4⟩
def own_isE (c : Int32) : Int32 := if c = (101 : Int32) ∨ c = (69 : Int32) then (1 : Int32) else (0 : Int32)
def own_isN (c : Int32) : Int32 := if c < (49 : Int32) ∨ (57 : Int32) < c then (0 : Int32) else (1 : Int32)
def own_iz (fi la : Int32) : Int32 := if la < fi then (1 : Int32) else (0 : Int32)
def own_nzc (c : Int32) : Prop := 49 ≤ c.toInt ∧ c.toInt ≤ 57
theorem own_isE1 {c : Int32} (q : ¬ own_isE c = (0 : Int32)) : own_ee c := by
  unfold own_isE at q
  by_cases h : c = (101 : Int32) ∨ c = (69 : Int32)
  · rcases h with rfl | rfl
    · exact Or.inl rfl
    · exact Or.inr rfl
  · simp [h] at q
theorem own_isE0 {c : Int32} (q : own_isE c = (0 : Int32)) : ¬ own_ee c := by
  unfold own_isE at q
  by_cases h : c = (101 : Int32) ∨ c = (69 : Int32)
  · simp [h] at q
  · intro z
    rcases z with z | z
    · exact h (Or.inl (Int32.toInt_inj.mp z))
    · exact h (Or.inr (Int32.toInt_inj.mp z))
theorem own_isN1 {c : Int32} (q : ¬ own_isN c = (0 : Int32)) : own_nzc c := by
  unfold own_isN at q
  by_cases h : c < (49 : Int32) ∨ (57 : Int32) < c
  · simp [h] at q
  · have e1 : (49 : Int32).toInt = 49 := rfl
    have e2 : (57 : Int32).toInt = 57 := rfl
    simp only [Int32.lt_iff_toInt_lt, not_or] at h
    unfold own_nzc
    omega
theorem own_isN0 {c : Int32} (q : own_isN c = (0 : Int32)) : ¬ own_nzc c := by
  unfold own_isN at q
  by_cases h : c < (49 : Int32) ∨ (57 : Int32) < c
  · have e1 : (49 : Int32).toInt = 49 := rfl
    have e2 : (57 : Int32).toInt = 57 := rfl
    simp only [Int32.lt_iff_toInt_lt] at h
    unfold own_nzc
    omega
  · simp [h] at q
def own_A (n en : Int32) (k : Nat) (lv : Int32) : Prop := (lv = (1 : Int32) ∧ ((k : Int) ≤ en.toInt ∨ n.toInt ≤ en.toInt)) ∨ (lv = (0 : Int32) ∧ en.toInt < (k : Int))
def own_B (ch : Nat → Int32) (en : Int32) (k : Nat) (nz : Int32) : Prop := (nz = (0 : Int32) ∧ ∀ j : Nat, (j : Int) < en.toInt → j < k → ¬ own_nzc (ch j)) ∨ (nz = (1 : Int32) ∧ ∃ j : Nat, (j : Int) < en.toInt ∧ own_nzc (ch j))
section Stg
variable {n en sa fi la nz lv : Int32} {ch : Nat → Int32} {k : Nat}
theorem own_nle {K n : Int32} (h : ¬ K < n) : n.toInt ≤ K.toInt := by
  have : ¬ K.toInt < n.toInt := fun q => h (Int32.lt_iff_toInt_lt.mpr q)
  omega
theorem own_Ask (h : n.toInt ≤ (k : Int)) (a : own_A n en k lv) : own_A n en (k + 1) lv := by
  rcases a with ⟨e, a⟩ | ⟨e, a⟩
  · exact Or.inl ⟨e, Or.inr (by omega)⟩
  · exact Or.inr ⟨e, by omega⟩
theorem own_Bsk (h : n.toInt ≤ (k : Int)) (P : own_PP n ch sa en) (b : own_B ch en k nz) : own_B ch en (k + 1) nz := by
  obtain ⟨f1, f2, f3, f4, f5, f6, f7⟩ := P
  rcases b with ⟨e, b⟩ | b
  · exact Or.inl ⟨e, fun j a _ => b j a (by omega)⟩
  · exact Or.inr b
theorem own_Adead (q : lv = (0 : Int32)) (a : own_A n en k lv) : en.toInt < (k : Int) := by
  rcases a with ⟨e, -⟩ | ⟨-, a⟩
  · rw [e] at q; exact absurd q (by decide)
  · exact a
theorem own_Bdead (h : en.toInt < (k : Int)) (b : own_B ch en k nz) : own_B ch en (k + 1) nz := by
  rcases b with ⟨e, b⟩ | b
  · exact Or.inl ⟨e, fun j a _ => b j a (by omega)⟩
  · exact Or.inr b
theorem own_noE (P : own_PP n ch sa en) (h : (k : Int) < en.toInt) : ¬ own_ee (ch k) := by
  obtain ⟨f1, f2, f3, f4, f5, f6, f7⟩ := P
  intro z
  by_cases q : sa.toInt ≤ (k : Int)
  · have := f6 k q h
    unfold own_dp own_dg at this; unfold own_ee at z
    omega
  · have e0 : k = 0 := by omega
    have := f3 (by omega)
    rw [e0] at z
    unfold own_ee at z
    omega
theorem own_live (q : ¬ lv = (0 : Int32)) (a : own_A n en k lv) (hn : (k : Int) < n.toInt) : (k : Int) ≤ en.toInt := by
  rcases a with ⟨-, a⟩ | ⟨e, -⟩
  · omega
  · exact absurd e q
theorem own_eqE (P : own_PP n ch sa en) (h : (k : Int) ≤ en.toInt) (z : own_ee (ch k)) : en.toInt = (k : Int) := Classical.byContradiction fun q => own_noE P (by omega) z
theorem own_ltE (P : own_PP n ch sa en) (h : (k : Int) ≤ en.toInt) (hn : (k : Int) < n.toInt) (z : ¬ own_ee (ch k)) : (k : Int) < en.toInt := Classical.byContradiction fun q => by
  have e : (k : Int) = en.toInt := by omega
  obtain ⟨f1, f2, f3, f4, f5, f6, f7⟩ := P
  rcases f7 with f | ⟨-, f⟩
  · omega
  · exact z (own_at (by omega) e f)
theorem own_AE (P : own_PP n ch sa en) (h : (k : Int) ≤ en.toInt) (z : own_ee (ch k)) : own_A n en (k + 1) (0 : Int32) := Or.inr ⟨rfl, by have := own_eqE P h z; omega⟩
theorem own_BE (P : own_PP n ch sa en) (h : (k : Int) ≤ en.toInt) (z : own_ee (ch k)) (b : own_B ch en k nz) : own_B ch en (k + 1) nz := by
  have := own_eqE P h z
  rcases b with ⟨e, b⟩ | b
  · exact Or.inl ⟨e, fun j a _ => b j a (by omega)⟩
  · exact Or.inr b
theorem own_AN (P : own_PP n ch sa en) (h : (k : Int) ≤ en.toInt) (hn : (k : Int) < n.toInt) (z : ¬ own_ee (ch k)) (q : ¬ lv = (0 : Int32)) (a : own_A n en k lv) : own_A n en (k + 1) lv := by
  have := own_ltE P h hn z
  rcases a with ⟨e, -⟩ | ⟨e, -⟩
  · exact Or.inl ⟨e, Or.inl (by omega)⟩
  · exact absurd e q
theorem own_BN (P : own_PP n ch sa en) (h : (k : Int) ≤ en.toInt) (hn : (k : Int) < n.toInt) (z : ¬ own_ee (ch k)) (w : own_nzc (ch k)) : own_B ch en (k + 1) (1 : Int32) := Or.inr ⟨rfl, k, own_ltE P h hn z, w⟩
theorem own_BO (w : ¬ own_nzc (ch k)) (b : own_B ch en k nz) : own_B ch en (k + 1) nz := by
  rcases b with ⟨e, b⟩ | b
  · refine Or.inl ⟨e, fun j a c => ?_⟩
    by_cases q : j = k
    · rw [q]; exact w
    · exact b j a (by omega)
  · exact Or.inr b
theorem own_fin (P : own_PP n ch sa en) (n5 : n.toInt ≤ 5) (hA : la < fi → ∀ j : Nat, sa.toInt ≤ (j : Int) → (j : Int) < en.toInt → own_z (ch j)) (hB : ¬ la < fi → ∃ j : Nat, sa.toInt ≤ (j : Int) ∧ (j : Int) < en.toInt ∧ ¬ own_z (ch j)) (b : own_B ch en 5 nz) : (own_iz fi la = (1 : Int32) ∧ nz = (0 : Int32)) ∨ (own_iz fi la = (0 : Int32) ∧ nz = (1 : Int32)) := by
  obtain ⟨f1, f2, f3, f4, f5, f6, f7⟩ := P
  by_cases q : la < fi
  · refine Or.inl ⟨if_pos q, ?_⟩
    rcases b with ⟨e, -⟩ | ⟨e, j, hj, w⟩
    · exact e
    · exfalso
      by_cases z : sa.toInt ≤ (j : Int)
      · have := hA q j z hj
        unfold own_z at this; unfold own_nzc at w; omega
      · have e0 : j = 0 := by omega
        have := f3 (by omega)
        rw [e0] at w; unfold own_nzc at w; omega
  · refine Or.inr ⟨if_neg q, ?_⟩
    obtain ⟨j, h1, h2, h3⟩ := hB q
    have d := f6 j h1 h2
    rcases b with ⟨e, b⟩ | ⟨e, -⟩
    · exfalso
      refine b j h2 (by omega) ?_
      unfold own_dp own_dg at d; unfold own_z at h3; unfold own_nzc; omega
    · exact e
end Stg
theorem d28_0 : Dc method_5_code 0 (.iload_n 0) 1 1 := ⟨by decide +kernel, rfl⟩
theorem d28_1 : Dc method_5_code 1 (.bipush 101) 2 3 := ⟨by decide +kernel, rfl⟩
theorem d28_3 : Bi method_5_code 3 (Instr.if_icmp .eq) 12 6 := ⟨9, by decide +kernel, by decide, by decide, rfl⟩
theorem d28_12 : Dc method_5_code 12 (.iconst 1) 1 13 := ⟨by decide +kernel, rfl⟩
theorem d28_13 : Bi method_5_code 13 (Instr.goto) 17 16 := ⟨4, by decide +kernel, by decide, by decide, rfl⟩
theorem d28_17 : Dc method_5_code 17 (.ireturn) 1 18 := ⟨by decide +kernel, rfl⟩
theorem d28_6 : Dc method_5_code 6 (.iload_n 0) 1 7 := ⟨by decide +kernel, rfl⟩
theorem d28_7 : Dc method_5_code 7 (.bipush 69) 2 9 := ⟨by decide +kernel, rfl⟩
theorem d28_9 : Bi method_5_code 9 (Instr.if_icmp .ne) 16 12 := ⟨7, by decide +kernel, by decide, by decide, rfl⟩
theorem d28_16 : Dc method_5_code 16 (.iconst 0) 1 17 := ⟨by decide +kernel, rfl⟩
theorem pn_rmisE : plainName "com/example/crisp_typedef/crisptypedef/SignificandIsZeroPinLaw" = true := by first | (simp [plainName, overriddenIn]; done) | decide +kernel
set_option maxRecDepth 65536 in
set_option maxHeartbeats 40000000 in
theorem rmisE (l : Launch) (Z : State) (a0 : Array Value) (hw : ∀ d ∈ tables_1, d.before a0 Z = true) (y : Int32) (h0 : Heap) :
    Met l Z (⟨"com/example/crisp_typedef/crisptypedef/SignificandIsZeroPinLaw", "isE", "(C)Z"⟩ : MethodName) method_5_code 1 (some .boolean) ({ frames := 0, cells := 0, slots := 0, locals := 0 } : Room) #[(.int y)] h0 (fun v h' => v = some (.int (own_isE y)) ∧ h0 = h') := by
  refine met_of (Ls := #[.val (.int y)]) (plainFor_of_name pn_rmisE) (fun m => by first | (simp [entryFrame, mkF, argsToLocals, Value.category]; done) | rfl) (fun p e s m below meth c cx => ?_)
  refine g_iloadN cx d28_0 rfl ?_
  refine g_bipush cx d28_1 (v := (101 : Int32)) rfl ?_
  refine g_icmp_eq cx d28_3 (fun hc3 => ?_) (fun hc3 => ?_)
  · refine g_iconst cx d28_12 (v := (1 : Int32)) rfl ?_
    refine g_goto cx d28_13 ?_
    refine g_retZ cx d28_17 rfl rfl (by decide) (by decide) ?_
    exact ⟨by simp [own_isE, hc3], rfl⟩
  · refine g_iloadN cx d28_6 rfl ?_
    refine g_bipush cx d28_7 (v := (69 : Int32)) rfl ?_
    refine g_icmp_ne cx d28_9 (fun hc9 => ?_) (fun hc9 => ?_)
    · refine g_iconst cx d28_16 (v := (0 : Int32)) rfl ?_
      refine g_retZ cx d28_17 rfl rfl (by decide) (by decide) ?_
      exact ⟨by simp [own_isE, hc3, hc9], rfl⟩
    · refine g_iconst cx d28_12 (v := (1 : Int32)) rfl ?_
      refine g_goto cx d28_13 ?_
      refine g_retZ cx d28_17 rfl rfl (by decide) (by decide) ?_
      exact ⟨by simp [own_isE, hc3, hc9], rfl⟩
theorem d29_0 : Dc method_6_code 0 (.iload_n 0) 1 1 := ⟨by decide +kernel, rfl⟩
theorem d29_1 : Dc method_6_code 1 (.bipush 49) 2 3 := ⟨by decide +kernel, rfl⟩
theorem d29_3 : Bi method_6_code 3 (Instr.if_icmp .lt) 16 6 := ⟨13, by decide +kernel, by decide, by decide, rfl⟩
theorem d29_16 : Dc method_6_code 16 (.iconst 0) 1 17 := ⟨by decide +kernel, rfl⟩
theorem d29_17 : Dc method_6_code 17 (.ireturn) 1 18 := ⟨by decide +kernel, rfl⟩
theorem d29_6 : Dc method_6_code 6 (.iload_n 0) 1 7 := ⟨by decide +kernel, rfl⟩
theorem d29_7 : Dc method_6_code 7 (.bipush 57) 2 9 := ⟨by decide +kernel, rfl⟩
theorem d29_9 : Bi method_6_code 9 (Instr.if_icmp .gt) 16 12 := ⟨7, by decide +kernel, by decide, by decide, rfl⟩
theorem d29_12 : Dc method_6_code 12 (.iconst 1) 1 13 := ⟨by decide +kernel, rfl⟩
theorem d29_13 : Bi method_6_code 13 (Instr.goto) 17 16 := ⟨4, by decide +kernel, by decide, by decide, rfl⟩
theorem pn_rmisN : plainName "com/example/crisp_typedef/crisptypedef/SignificandIsZeroPinLaw" = true := by first | (simp [plainName, overriddenIn]; done) | decide +kernel
set_option maxRecDepth 65536 in
set_option maxHeartbeats 40000000 in
theorem rmisN (l : Launch) (Z : State) (a0 : Array Value) (hw : ∀ d ∈ tables_1, d.before a0 Z = true) (y : Int32) (h0 : Heap) :
    Met l Z (⟨"com/example/crisp_typedef/crisptypedef/SignificandIsZeroPinLaw", "isNz", "(C)Z"⟩ : MethodName) method_6_code 1 (some .boolean) ({ frames := 0, cells := 0, slots := 0, locals := 0 } : Room) #[(.int y)] h0 (fun v h' => v = some (.int (own_isN y)) ∧ h0 = h') := by
  refine met_of (Ls := #[.val (.int y)]) (plainFor_of_name pn_rmisN) (fun m => by first | (simp [entryFrame, mkF, argsToLocals, Value.category]; done) | rfl) (fun p e s m below meth c cx => ?_)
  refine g_iloadN cx d29_0 rfl ?_
  refine g_bipush cx d29_1 (v := (49 : Int32)) rfl ?_
  refine g_icmp_lt cx d29_3 (fun hc3 => ?_) (fun hc3 => ?_)
  · refine g_iconst cx d29_16 (v := (0 : Int32)) rfl ?_
    refine g_retZ cx d29_17 rfl rfl (by decide) (by decide) ?_
    exact ⟨by simp [own_isN, hc3], rfl⟩
  · refine g_iloadN cx d29_6 rfl ?_
    refine g_bipush cx d29_7 (v := (57 : Int32)) rfl ?_
    refine g_icmp_gt cx d29_9 (fun hc9 => ?_) (fun hc9 => ?_)
    · refine g_iconst cx d29_16 (v := (0 : Int32)) rfl ?_
      refine g_retZ cx d29_17 rfl rfl (by decide) (by decide) ?_
      exact ⟨by simp [own_isN, hc3, hc9], rfl⟩
    · refine g_iconst cx d29_12 (v := (1 : Int32)) rfl ?_
      refine g_goto cx d29_13 ?_
      refine g_retZ cx d29_17 rfl rfl (by decide) (by decide) ?_
      exact ⟨by simp [own_isN, hc3, hc9], rfl⟩
theorem d30_0 : Dc prog_22_method_2_code 0 (.aload_n 0) 1 1 := ⟨by decide +kernel, rfl⟩
theorem d30_1 : Dc prog_22_method_2_code 1 (.getfield 13) 3 4 := ⟨by decide +kernel, rfl⟩
theorem d30_4 : Dc prog_22_method_2_code 4 (.aload_n 0) 1 5 := ⟨by decide +kernel, rfl⟩
theorem d30_5 : Dc prog_22_method_2_code 5 (.getfield 17) 3 8 := ⟨by decide +kernel, rfl⟩
theorem d30_8 : Bi prog_22_method_2_code 8 (Instr.if_icmp .le) 15 11 := ⟨7, by decide +kernel, by decide, by decide, rfl⟩
theorem d30_15 : Dc prog_22_method_2_code 15 (.iconst 0) 1 16 := ⟨by decide +kernel, rfl⟩
theorem d30_16 : Dc prog_22_method_2_code 16 (.ireturn) 1 17 := ⟨by decide +kernel, rfl⟩
theorem d30_11 : Dc prog_22_method_2_code 11 (.iconst 1) 1 12 := ⟨by decide +kernel, rfl⟩
theorem d30_12 : Bi prog_22_method_2_code 12 (Instr.goto) 16 15 := ⟨4, by decide +kernel, by decide, by decide, rfl⟩
theorem pn_rmisZ : plainName "com/example/crisp_typedef/crisptypedef/NumberText$Significand" = true := by first | (simp [plainName, overriddenIn]; done) | decide +kernel
set_option maxRecDepth 65536 in
set_option maxHeartbeats 40000000 in
theorem rmisZ (l : Launch) (Z : State) (a0 : Array Value) (hw : ∀ d ∈ tables_1, d.before a0 Z = true) (g : Addr) (ng fi la po : Int32) (pw : Int64) (h0 : Heap) (O_g : ObG Z h0 g (.int ng) (.int fi) (.int la) (.int po) (.long pw)) :
    Met l Z (⟨"com/example/crisp_typedef/crisptypedef/NumberText$Significand", "isZero", "()Z"⟩ : MethodName) prog_22_method_2_code 1 (some .boolean) ({ frames := 0, cells := 0, slots := 0, locals := 0 } : Room) #[(.ref g)] h0 (fun v h' => v = some (.int (own_iz fi la)) ∧ h0 = h') := by
  refine met_of (Ls := #[.val (.ref g)]) (plainFor_of_name pn_rmisZ) (fun m => by first | (simp [entryFrame, mkF, argsToLocals, Value.category]; done) | rfl) (fun p e s m below meth c cx => ?_)
  refine g_aloadN cx d30_0 rfl rfl ?_
  refine g_getF cx d30_1 (host := "") (Or.inl (hw _ (List.mem_of_getElem? (i := 145) rfl))) Via.refl O_g.2.2.1 ?_
  refine g_aloadN cx d30_4 rfl rfl ?_
  refine g_getF cx d30_5 (host := "") (Or.inl (hw _ (List.mem_of_getElem? (i := 147) rfl))) Via.refl O_g.2.2.2.1 ?_
  refine g_icmp_le cx d30_8 (fun hc8 => ?_) (fun hc8 => ?_)
  · refine g_iconst cx d30_15 (v := (0 : Int32)) rfl ?_
    refine g_retZ cx d30_16 rfl rfl (by decide) (by decide) ?_
    exact ⟨by simp [own_iz, hc8], rfl⟩
  · refine g_iconst cx d30_11 (v := (1 : Int32)) rfl ?_
    refine g_goto cx d30_12 ?_
    refine g_retZ cx d30_16 rfl rfl (by decide) (by decide) ?_
    exact ⟨by simp [own_iz, hc8], rfl⟩
theorem d0_0 : Dc code 0 (.iload 5) 2 2 := ⟨by decide +kernel, rfl⟩
theorem d0_2 : Dc code 2 (.bipush 7) 2 4 := ⟨by decide +kernel, rfl⟩
theorem d0_4 : Dc code 4 (.iand) 1 5 := ⟨by decide +kernel, rfl⟩
theorem d0_5 : Dc code 5 (.iconst 5) 1 6 := ⟨by decide +kernel, rfl⟩
theorem d0_6 : Dc code 6 (.irem) 1 7 := ⟨by decide +kernel, rfl⟩
theorem d0_7 : Dc code 7 (.iconst 1) 1 8 := ⟨by decide +kernel, rfl⟩
theorem d0_8 : Dc code 8 (.iadd) 1 9 := ⟨by decide +kernel, rfl⟩
theorem d0_9 : Dc code 9 (.istore 6) 2 11 := ⟨by decide +kernel, rfl⟩
theorem d0_11 : Dc code 11 (.iload_n 0) 1 12 := ⟨by decide +kernel, rfl⟩
theorem d0_12 : Dc code 12 (.invokestatic 7) 3 15 := ⟨by decide +kernel, rfl⟩
theorem d0_15 : Dc code 15 (.istore 7) 2 17 := ⟨by decide +kernel, rfl⟩
theorem d0_17 : Dc code 17 (.iload_n 1) 1 18 := ⟨by decide +kernel, rfl⟩
theorem d0_18 : Dc code 18 (.invokestatic 7) 3 21 := ⟨by decide +kernel, rfl⟩
theorem d0_21 : Dc code 21 (.istore 8) 2 23 := ⟨by decide +kernel, rfl⟩
theorem d0_23 : Dc code 23 (.iload_n 2) 1 24 := ⟨by decide +kernel, rfl⟩
theorem d0_24 : Dc code 24 (.invokestatic 7) 3 27 := ⟨by decide +kernel, rfl⟩
theorem d0_27 : Dc code 27 (.istore 9) 2 29 := ⟨by decide +kernel, rfl⟩
theorem d0_29 : Dc code 29 (.iload_n 3) 1 30 := ⟨by decide +kernel, rfl⟩
theorem d0_30 : Dc code 30 (.invokestatic 7) 3 33 := ⟨by decide +kernel, rfl⟩
theorem d0_33 : Dc code 33 (.istore 10) 2 35 := ⟨by decide +kernel, rfl⟩
theorem d0_35 : Dc code 35 (.iload 4) 2 37 := ⟨by decide +kernel, rfl⟩
theorem d0_37 : Dc code 37 (.invokestatic 7) 3 40 := ⟨by decide +kernel, rfl⟩
theorem d0_40 : Dc code 40 (.istore 11) 2 42 := ⟨by decide +kernel, rfl⟩
theorem d0_57 : Dc code 57 (.astore 12) 2 59 := ⟨by decide +kernel, rfl⟩
theorem d0_59 : Dc code 59 (.aload 12) 2 61 := ⟨by decide +kernel, rfl⟩
theorem pd_19 : parseMethodDescriptor "(Ljava/lang/CharSequence;)Lcom/example/crisp_typedef/crisptypedef/NumberText$Significand;" = some ⟨[(.object "java/lang/CharSequence")], some (.object "com/example/crisp_typedef/crisptypedef/NumberText$Significand")⟩ := by decide +kernel
theorem d0_61 : Dc code 61 (.invokestatic 17) 3 64 := ⟨by decide +kernel, rfl⟩
theorem d0_64 : Dc code 64 (.astore 13) 2 66 := ⟨by decide +kernel, rfl⟩
theorem d0_66 : Dc code 66 (.aload 13) 2 68 := ⟨by decide +kernel, rfl⟩
theorem d0_68 : Bi code 68 (Instr.ifnonnull) 73 71 := ⟨5, by decide +kernel, by decide, by decide, rfl⟩
theorem d0_71 : Dc code 71 (.iconst 1) 1 72 := ⟨by decide +kernel, rfl⟩
theorem d0_72 : Dc code 72 (.ireturn) 1 73 := ⟨by decide +kernel, rfl⟩
theorem d0_248 : Dc code 248 (.aload 13) 2 250 := ⟨by decide +kernel, rfl⟩
theorem d0_250 : Dc code 250 (.invokevirtual 30) 3 253 := ⟨by decide +kernel, rfl⟩
theorem d0_253 : Dc code 253 (.iload 14) 2 255 := ⟨by decide +kernel, rfl⟩
theorem d0_255 : Bi code 255 (Instr.ifCond .ne) 262 258 := ⟨7, by decide +kernel, by decide, by decide, rfl⟩
theorem d0_258 : Dc code 258 (.iconst 1) 1 259 := ⟨by decide +kernel, rfl⟩
theorem d0_259 : Bi code 259 (Instr.goto) 263 262 := ⟨4, by decide +kernel, by decide, by decide, rfl⟩
theorem d0_263 : Bi code 263 (Instr.if_icmp .ne) 270 266 := ⟨7, by decide +kernel, by decide, by decide, rfl⟩
theorem d0_266 : Dc code 266 (.iconst 1) 1 267 := ⟨by decide +kernel, rfl⟩
theorem d0_267 : Bi code 267 (Instr.goto) 271 270 := ⟨4, by decide +kernel, by decide, by decide, rfl⟩
theorem d0_271 : Dc code 271 (.ireturn) 1 272 := ⟨by decide +kernel, rfl⟩
theorem d0_262 : Dc code 262 (.iconst 0) 1 263 := ⟨by decide +kernel, rfl⟩
theorem d0_212 : Dc code 212 (.iload 6) 2 214 := ⟨by decide +kernel, rfl⟩
theorem d0_214 : Dc code 214 (.iconst 4) 1 215 := ⟨by decide +kernel, rfl⟩
theorem d0_215 : Bi code 215 (Instr.if_icmp .le) 248 218 := ⟨33, by decide +kernel, by decide, by decide, rfl⟩
theorem d0_218 : Dc code 218 (.iload 15) 2 220 := ⟨by decide +kernel, rfl⟩
theorem d0_220 : Bi code 220 (Instr.ifCond .eq) 248 223 := ⟨28, by decide +kernel, by decide, by decide, rfl⟩
theorem d0_223 : Dc code 223 (.iload 11) 2 225 := ⟨by decide +kernel, rfl⟩
theorem d0_225 : Dc code 225 (.invokestatic 23) 3 228 := ⟨by decide +kernel, rfl⟩
theorem d0_228 : Bi code 228 (Instr.ifCond .eq) 237 231 := ⟨9, by decide +kernel, by decide, by decide, rfl⟩
theorem d0_237 : Dc code 237 (.iload 11) 2 239 := ⟨by decide +kernel, rfl⟩
theorem d0_239 : Dc code 239 (.invokestatic 27) 3 242 := ⟨by decide +kernel, rfl⟩
theorem d0_242 : Bi code 242 (Instr.ifCond .eq) 248 245 := ⟨6, by decide +kernel, by decide, by decide, rfl⟩
theorem d0_245 : Dc code 245 (.iconst 1) 1 246 := ⟨by decide +kernel, rfl⟩
theorem d0_246 : Dc code 246 (.istore 14) 2 248 := ⟨by decide +kernel, rfl⟩
theorem d0_231 : Dc code 231 (.iconst 0) 1 232 := ⟨by decide +kernel, rfl⟩
theorem d0_232 : Dc code 232 (.istore 15) 2 234 := ⟨by decide +kernel, rfl⟩
theorem d0_234 : Bi code 234 (Instr.goto) 248 237 := ⟨14, by decide +kernel, by decide, by decide, rfl⟩
theorem d0_176 : Dc code 176 (.iload 6) 2 178 := ⟨by decide +kernel, rfl⟩
theorem d0_178 : Dc code 178 (.iconst 3) 1 179 := ⟨by decide +kernel, rfl⟩
theorem d0_179 : Bi code 179 (Instr.if_icmp .le) 212 182 := ⟨33, by decide +kernel, by decide, by decide, rfl⟩
theorem d0_182 : Dc code 182 (.iload 15) 2 184 := ⟨by decide +kernel, rfl⟩
theorem d0_184 : Bi code 184 (Instr.ifCond .eq) 212 187 := ⟨28, by decide +kernel, by decide, by decide, rfl⟩
theorem d0_187 : Dc code 187 (.iload 10) 2 189 := ⟨by decide +kernel, rfl⟩
theorem d0_189 : Dc code 189 (.invokestatic 23) 3 192 := ⟨by decide +kernel, rfl⟩
theorem d0_192 : Bi code 192 (Instr.ifCond .eq) 201 195 := ⟨9, by decide +kernel, by decide, by decide, rfl⟩
theorem d0_201 : Dc code 201 (.iload 10) 2 203 := ⟨by decide +kernel, rfl⟩
theorem d0_203 : Dc code 203 (.invokestatic 27) 3 206 := ⟨by decide +kernel, rfl⟩
theorem d0_206 : Bi code 206 (Instr.ifCond .eq) 212 209 := ⟨6, by decide +kernel, by decide, by decide, rfl⟩
theorem d0_209 : Dc code 209 (.iconst 1) 1 210 := ⟨by decide +kernel, rfl⟩
theorem d0_210 : Dc code 210 (.istore 14) 2 212 := ⟨by decide +kernel, rfl⟩
theorem d0_195 : Dc code 195 (.iconst 0) 1 196 := ⟨by decide +kernel, rfl⟩
theorem d0_196 : Dc code 196 (.istore 15) 2 198 := ⟨by decide +kernel, rfl⟩
theorem d0_198 : Bi code 198 (Instr.goto) 212 201 := ⟨14, by decide +kernel, by decide, by decide, rfl⟩
theorem d0_140 : Dc code 140 (.iload 6) 2 142 := ⟨by decide +kernel, rfl⟩
theorem d0_142 : Dc code 142 (.iconst 2) 1 143 := ⟨by decide +kernel, rfl⟩
theorem d0_143 : Bi code 143 (Instr.if_icmp .le) 176 146 := ⟨33, by decide +kernel, by decide, by decide, rfl⟩
theorem d0_146 : Dc code 146 (.iload 15) 2 148 := ⟨by decide +kernel, rfl⟩
theorem d0_148 : Bi code 148 (Instr.ifCond .eq) 176 151 := ⟨28, by decide +kernel, by decide, by decide, rfl⟩
theorem d0_151 : Dc code 151 (.iload 9) 2 153 := ⟨by decide +kernel, rfl⟩
theorem d0_153 : Dc code 153 (.invokestatic 23) 3 156 := ⟨by decide +kernel, rfl⟩
theorem d0_156 : Bi code 156 (Instr.ifCond .eq) 165 159 := ⟨9, by decide +kernel, by decide, by decide, rfl⟩
theorem d0_165 : Dc code 165 (.iload 9) 2 167 := ⟨by decide +kernel, rfl⟩
theorem d0_167 : Dc code 167 (.invokestatic 27) 3 170 := ⟨by decide +kernel, rfl⟩
theorem d0_170 : Bi code 170 (Instr.ifCond .eq) 176 173 := ⟨6, by decide +kernel, by decide, by decide, rfl⟩
theorem d0_173 : Dc code 173 (.iconst 1) 1 174 := ⟨by decide +kernel, rfl⟩
theorem d0_174 : Dc code 174 (.istore 14) 2 176 := ⟨by decide +kernel, rfl⟩
theorem d0_159 : Dc code 159 (.iconst 0) 1 160 := ⟨by decide +kernel, rfl⟩
theorem d0_160 : Dc code 160 (.istore 15) 2 162 := ⟨by decide +kernel, rfl⟩
theorem d0_162 : Bi code 162 (Instr.goto) 176 165 := ⟨14, by decide +kernel, by decide, by decide, rfl⟩
theorem d0_104 : Dc code 104 (.iload 6) 2 106 := ⟨by decide +kernel, rfl⟩
theorem d0_106 : Dc code 106 (.iconst 1) 1 107 := ⟨by decide +kernel, rfl⟩
theorem d0_107 : Bi code 107 (Instr.if_icmp .le) 140 110 := ⟨33, by decide +kernel, by decide, by decide, rfl⟩
theorem d0_110 : Dc code 110 (.iload 15) 2 112 := ⟨by decide +kernel, rfl⟩
theorem d0_112 : Bi code 112 (Instr.ifCond .eq) 140 115 := ⟨28, by decide +kernel, by decide, by decide, rfl⟩
theorem d0_115 : Dc code 115 (.iload 8) 2 117 := ⟨by decide +kernel, rfl⟩
theorem d0_117 : Dc code 117 (.invokestatic 23) 3 120 := ⟨by decide +kernel, rfl⟩
theorem d0_120 : Bi code 120 (Instr.ifCond .eq) 129 123 := ⟨9, by decide +kernel, by decide, by decide, rfl⟩
theorem d0_129 : Dc code 129 (.iload 8) 2 131 := ⟨by decide +kernel, rfl⟩
theorem d0_131 : Dc code 131 (.invokestatic 27) 3 134 := ⟨by decide +kernel, rfl⟩
theorem d0_134 : Bi code 134 (Instr.ifCond .eq) 140 137 := ⟨6, by decide +kernel, by decide, by decide, rfl⟩
theorem d0_137 : Dc code 137 (.iconst 1) 1 138 := ⟨by decide +kernel, rfl⟩
theorem d0_138 : Dc code 138 (.istore 14) 2 140 := ⟨by decide +kernel, rfl⟩
theorem d0_123 : Dc code 123 (.iconst 0) 1 124 := ⟨by decide +kernel, rfl⟩
theorem d0_124 : Dc code 124 (.istore 15) 2 126 := ⟨by decide +kernel, rfl⟩
theorem d0_126 : Bi code 126 (Instr.goto) 140 129 := ⟨14, by decide +kernel, by decide, by decide, rfl⟩
theorem d0_73 : Dc code 73 (.iconst 0) 1 74 := ⟨by decide +kernel, rfl⟩
theorem d0_74 : Dc code 74 (.istore 14) 2 76 := ⟨by decide +kernel, rfl⟩
theorem d0_76 : Dc code 76 (.iconst 1) 1 77 := ⟨by decide +kernel, rfl⟩
theorem d0_77 : Dc code 77 (.istore 15) 2 79 := ⟨by decide +kernel, rfl⟩
theorem d0_79 : Dc code 79 (.iload 7) 2 81 := ⟨by decide +kernel, rfl⟩
theorem d0_81 : Dc code 81 (.invokestatic 23) 3 84 := ⟨by decide +kernel, rfl⟩
theorem d0_84 : Bi code 84 (Instr.ifCond .eq) 93 87 := ⟨9, by decide +kernel, by decide, by decide, rfl⟩
theorem d0_93 : Dc code 93 (.iload 7) 2 95 := ⟨by decide +kernel, rfl⟩
theorem d0_95 : Dc code 95 (.invokestatic 27) 3 98 := ⟨by decide +kernel, rfl⟩
theorem d0_98 : Bi code 98 (Instr.ifCond .eq) 104 101 := ⟨6, by decide +kernel, by decide, by decide, rfl⟩
theorem d0_101 : Dc code 101 (.iconst 1) 1 102 := ⟨by decide +kernel, rfl⟩
theorem d0_102 : Dc code 102 (.istore 14) 2 104 := ⟨by decide +kernel, rfl⟩
theorem d0_87 : Dc code 87 (.iconst 0) 1 88 := ⟨by decide +kernel, rfl⟩
theorem d0_88 : Dc code 88 (.istore 15) 2 90 := ⟨by decide +kernel, rfl⟩
theorem d0_90 : Bi code 90 (Instr.goto) 104 93 := ⟨14, by decide +kernel, by decide, by decide, rfl⟩
theorem d0_42 : Dc code 42 (.iload 6) 2 44 := ⟨by decide +kernel, rfl⟩
theorem d0_44 : Dc code 44 (.iload 7) 2 46 := ⟨by decide +kernel, rfl⟩
theorem d0_46 : Dc code 46 (.iload 8) 2 48 := ⟨by decide +kernel, rfl⟩
theorem d0_48 : Dc code 48 (.iload 9) 2 50 := ⟨by decide +kernel, rfl⟩
theorem d0_50 : Dc code 50 (.iload 10) 2 52 := ⟨by decide +kernel, rfl⟩
theorem d0_52 : Dc code 52 (.iload 11) 2 54 := ⟨by decide +kernel, rfl⟩
theorem pd_20 : parseMethodDescriptor "(ICCCCC)Ljava/lang/String;" = some ⟨[.int, .char, .char, .char, .char, .char], some (.object "java/lang/String")⟩ := by decide +kernel
theorem d0_54 : Dc code 54 (.invokestatic 13) 3 57 := ⟨by decide +kernel, rfl⟩
theorem pn_rm0 : plainName "com/example/crisp_typedef/crisptypedef/SignificandIsZeroPinLaw" = true := by first | (simp [plainName, overriddenIn]; done) | decide +kernel
set_option maxRecDepth 65536 in
set_option maxHeartbeats 40000000 in
theorem rm0 (l : Launch) (Z : State) (a0 : Array Value) (hw : ∀ d ∈ tables_1, d.before a0 Z = true) (ia ib ic ix iy iz : Int32) (cs : Int32) (SCS : Sta Z Z.heap "java/lang/String" "COMPACT_STRINGS" "Z" (.int cs)) (hcs : ¬ cs = (0 : Int32)) (fv : Value) (hfv : fv = .null ∨ ∃ fa, fv = .ref fa) (SFV : Sta Z Z.heap "jdk/internal/util/Preconditions" "SIOOBE_FORMATTER" "Ljava/util/function/BiFunction;" fv) (h0 : Heap) (OL : Old Z Z.heap.size h0) :
    Met l Z x code maxLocals ret room_1 #[(.int ia), (.int ib), (.int ic), (.int ix), (.int iy), (.int iz)] h0 (fun v _ => v = some (.int 1)) := by
  refine met_of (Ls := #[.val (.int ia), .val (.int ib), .val (.int ic), .val (.int ix), .val (.int iy), .val (.int iz), .unset, .unset, .unset, .unset, .unset, .unset, .unset, .unset, .unset, .unset]) (plainFor_of_name pn_rm0) (fun m => by first | (simp [entryFrame, mkF, argsToLocals, Value.category, maxLocals]; done) | rfl) (fun p e s m below meth c cx => ?_)
  refine g_iload cx d0_0 rfl ?_
  refine g_bipush cx d0_2 (v := (7 : Int32)) rfl ?_
  refine g_iand cx d0_4 ?_
  refine g_iconst cx d0_5 (v := (5 : Int32)) rfl ?_
  refine g_irem cx d0_6 (by decide) ?_
  refine g_iconst cx d0_7 (v := (1 : Int32)) rfl ?_
  refine g_iadd cx d0_8 ?_
  refine g_istore cx d0_9 (Ls' := #[.val (.int ia), .val (.int ib), .val (.int ic), .val (.int ix), .val (.int iy), .val (.int iz), .val (.int (((iz &&& (7 : Int32)) % (5 : Int32)) + (1 : Int32))), .unset, .unset, .unset, .unset, .unset, .unset, .unset, .unset, .unset]) rfl ?_
  refine g_iloadN cx d0_11 rfl ?_
  refine g_static cx (y := (⟨"com/example/crisp_typedef/crisptypedef/SignificandIsZeroPinLaw", "pick", "(I)C"⟩ : MethodName)) d0_12 (hw _ (List.mem_of_getElem? (i := 0) rfl)) (hw _ (List.mem_of_getElem? (i := 1) rfl)) (hw _ (List.mem_of_getElem? (i := 2) rfl)) (hw _ (List.mem_of_getElem? (i := 3) rfl)) (by decide) (bytes := method_3_code) (maxL' := 2) (M := (rmpk l Z a0 hw ia _ OL)) rfl (lenOf pd_6 rfl) (by decide) (W := 0) (Nat.le_of_eq rfl) (by decide) (k' := 1) (n' := 16) rfl rfl (by decide) (by decide) (argsL := [(.int ia)]) (rest := []) rfl (fun v2 h1 q3 => ?_)
  obtain ⟨d0, rfl, KP0, lo0, hi0⟩ := q3
  have OL := OL.keep KP0 all0
  refine G.cast (st' := [(.int d0)]) ?_ rfl
  refine g_istore cx d0_15 (Ls' := #[.val (.int ia), .val (.int ib), .val (.int ic), .val (.int ix), .val (.int iy), .val (.int iz), .val (.int (((iz &&& (7 : Int32)) % (5 : Int32)) + (1 : Int32))), .val (.int d0), .unset, .unset, .unset, .unset, .unset, .unset, .unset, .unset]) rfl ?_
  refine g_iloadN cx d0_17 rfl ?_
  refine g_static cx (y := (⟨"com/example/crisp_typedef/crisptypedef/SignificandIsZeroPinLaw", "pick", "(I)C"⟩ : MethodName)) d0_18 (hw _ (List.mem_of_getElem? (i := 0) rfl)) (hw _ (List.mem_of_getElem? (i := 1) rfl)) (hw _ (List.mem_of_getElem? (i := 2) rfl)) (hw _ (List.mem_of_getElem? (i := 3) rfl)) (by decide) (bytes := method_3_code) (maxL' := 2) (M := (rmpk l Z a0 hw ib _ OL)) rfl (lenOf pd_6 rfl) (by decide) (W := 0) (Nat.le_of_eq rfl) (by decide) (k' := 2) (n' := 32) rfl rfl (by decide) (by decide) (argsL := [(.int ib)]) (rest := []) rfl (fun v5 h4 q6 => ?_)
  obtain ⟨d1, rfl, KP1, lo1, hi1⟩ := q6
  have OL := OL.keep KP1 all0
  refine G.cast (st' := [(.int d1)]) ?_ rfl
  refine g_istore cx d0_21 (Ls' := #[.val (.int ia), .val (.int ib), .val (.int ic), .val (.int ix), .val (.int iy), .val (.int iz), .val (.int (((iz &&& (7 : Int32)) % (5 : Int32)) + (1 : Int32))), .val (.int d0), .val (.int d1), .unset, .unset, .unset, .unset, .unset, .unset, .unset]) rfl ?_
  refine g_iloadN cx d0_23 rfl ?_
  refine g_static cx (y := (⟨"com/example/crisp_typedef/crisptypedef/SignificandIsZeroPinLaw", "pick", "(I)C"⟩ : MethodName)) d0_24 (hw _ (List.mem_of_getElem? (i := 0) rfl)) (hw _ (List.mem_of_getElem? (i := 1) rfl)) (hw _ (List.mem_of_getElem? (i := 2) rfl)) (hw _ (List.mem_of_getElem? (i := 3) rfl)) (by decide) (bytes := method_3_code) (maxL' := 2) (M := (rmpk l Z a0 hw ic _ OL)) rfl (lenOf pd_6 rfl) (by decide) (W := 0) (Nat.le_of_eq rfl) (by decide) (k' := 3) (n' := 48) rfl rfl (by decide) (by decide) (argsL := [(.int ic)]) (rest := []) rfl (fun v8 h7 q9 => ?_)
  obtain ⟨d2, rfl, KP2, lo2, hi2⟩ := q9
  have OL := OL.keep KP2 all0
  refine G.cast (st' := [(.int d2)]) ?_ rfl
  refine g_istore cx d0_27 (Ls' := #[.val (.int ia), .val (.int ib), .val (.int ic), .val (.int ix), .val (.int iy), .val (.int iz), .val (.int (((iz &&& (7 : Int32)) % (5 : Int32)) + (1 : Int32))), .val (.int d0), .val (.int d1), .val (.int d2), .unset, .unset, .unset, .unset, .unset, .unset]) rfl ?_
  refine g_iloadN cx d0_29 rfl ?_
  refine g_static cx (y := (⟨"com/example/crisp_typedef/crisptypedef/SignificandIsZeroPinLaw", "pick", "(I)C"⟩ : MethodName)) d0_30 (hw _ (List.mem_of_getElem? (i := 0) rfl)) (hw _ (List.mem_of_getElem? (i := 1) rfl)) (hw _ (List.mem_of_getElem? (i := 2) rfl)) (hw _ (List.mem_of_getElem? (i := 3) rfl)) (by decide) (bytes := method_3_code) (maxL' := 2) (M := (rmpk l Z a0 hw ix _ OL)) rfl (lenOf pd_6 rfl) (by decide) (W := 0) (Nat.le_of_eq rfl) (by decide) (k' := 4) (n' := 64) rfl rfl (by decide) (by decide) (argsL := [(.int ix)]) (rest := []) rfl (fun v11 h10 q12 => ?_)
  obtain ⟨d3, rfl, KP3, lo3, hi3⟩ := q12
  have OL := OL.keep KP3 all0
  refine G.cast (st' := [(.int d3)]) ?_ rfl
  refine g_istore cx d0_33 (Ls' := #[.val (.int ia), .val (.int ib), .val (.int ic), .val (.int ix), .val (.int iy), .val (.int iz), .val (.int (((iz &&& (7 : Int32)) % (5 : Int32)) + (1 : Int32))), .val (.int d0), .val (.int d1), .val (.int d2), .val (.int d3), .unset, .unset, .unset, .unset, .unset]) rfl ?_
  refine g_iload cx d0_35 rfl ?_
  refine g_static cx (y := (⟨"com/example/crisp_typedef/crisptypedef/SignificandIsZeroPinLaw", "pick", "(I)C"⟩ : MethodName)) d0_37 (hw _ (List.mem_of_getElem? (i := 0) rfl)) (hw _ (List.mem_of_getElem? (i := 1) rfl)) (hw _ (List.mem_of_getElem? (i := 2) rfl)) (hw _ (List.mem_of_getElem? (i := 3) rfl)) (by decide) (bytes := method_3_code) (maxL' := 2) (M := (rmpk l Z a0 hw iy _ OL)) rfl (lenOf pd_6 rfl) (by decide) (W := 0) (Nat.le_of_eq rfl) (by decide) (k' := 5) (n' := 80) rfl rfl (by decide) (by decide) (argsL := [(.int iy)]) (rest := []) rfl (fun v14 h13 q15 => ?_)
  obtain ⟨d4, rfl, KP4, lo4, hi4⟩ := q15
  have OL := OL.keep KP4 all0
  refine G.cast (st' := [(.int d4)]) ?_ rfl
  refine g_istore cx d0_40 (Ls' := #[.val (.int ia), .val (.int ib), .val (.int ic), .val (.int ix), .val (.int iy), .val (.int iz), .val (.int (((iz &&& (7 : Int32)) % (5 : Int32)) + (1 : Int32))), .val (.int d0), .val (.int d1), .val (.int d2), .val (.int d3), .val (.int d4), .unset, .unset, .unset, .unset]) rfl ?_
  have J57 : ∀ (n : Int32) (tx : Addr) (h : Heap), 1 ≤ n.toInt → n.toInt ≤ 5 → Old Z Z.heap.size h → own_T Z h h.size tx n (own_ch d0 d1 d2 d3 d4) → G p l e room_1 s m #[.int ia, .int ib, .int ic, .int ix, .int iy, .int iz] below meth c Z.heap.size (fun v _ => v = some (.int 1)) h 8 94 57 #[.val (.int ia), .val (.int ib), .val (.int ic), .val (.int ix), .val (.int iy), .val (.int iz), .val (.int n), .val (.int d0), .val (.int d1), .val (.int d2), .val (.int d3), .val (.int d4), .unset, .unset, .unset, .unset] [.ref tx] := by
    intro n tx h n1 n5 OL TT
    refine g_astore cx d0_57 rfl (Ls' := #[.val (.int ia), .val (.int ib), .val (.int ic), .val (.int ix), .val (.int iy), .val (.int iz), .val (.int n), .val (.int d0), .val (.int d1), .val (.int d2), .val (.int d3), .val (.int d4), .val (.ref tx), .unset, .unset, .unset]) rfl ?_
    refine g_aload cx d0_59 rfl rfl ?_
    refine g_static cx (y := (⟨"com/example/crisp_typedef/crisptypedef/NumberText", "significand", "(Ljava/lang/CharSequence;)Lcom/example/crisp_typedef/crisptypedef/NumberText$Significand;"⟩ : MethodName)) d0_61 (hw _ (List.mem_of_getElem? (i := 37) rfl)) (hw _ (List.mem_of_getElem? (i := 38) rfl)) (hw _ (List.mem_of_getElem? (i := 39) rfl)) (hw _ (List.mem_of_getElem? (i := 40) rfl)) (by decide) (bytes := prog_20_method_5_code) (maxL' := 7) (M := (rmsg l Z a0 hw cs SCS hcs fv hfv SFV _ tx n _ _ TT OL)) rfl (lenOf pd_19 rfl) (by decide) (W := 0) (Nat.le_of_eq rfl) (by decide) (k' := 10) (n' := 104) rfl rfl (by decide) (by decide) (argsL := [(.ref tx)]) (rest := []) rfl (fun v502 h501 q503 => ?_)
    rcases q503 with ⟨rfl, KS⟩ | ⟨g, ng, fi, la, po, pw, rfl, KS, st_g, O_g, ⟨sa, en, hPP, hzA, hzB⟩⟩
    · have OL := OL.keep KS all0
      refine G.cast (st' := [.null]) ?_ rfl
      refine g_astore cx d0_64 rfl (Ls' := #[.val (.int ia), .val (.int ib), .val (.int ic), .val (.int ix), .val (.int iy), .val (.int iz), .val (.int n), .val (.int d0), .val (.int d1), .val (.int d2), .val (.int d3), .val (.int d4), .val (.ref tx), .val .null, .unset, .unset]) rfl ?_
      refine g_aload cx d0_66 rfl rfl ?_
      refine g_ifnonnull_null cx d0_68 ?_
      refine g_iconst cx d0_71 (v := (1 : Int32)) rfl ?_
      refine g_retZ cx d0_72 rfl rfl (by decide) (by decide) ?_
      rfl
    · have OL := OL.keep KS all0
      refine G.cast (st' := [(.ref g)]) ?_ rfl
      refine g_astore cx d0_64 rfl (Ls' := #[.val (.int ia), .val (.int ib), .val (.int ic), .val (.int ix), .val (.int iy), .val (.int iz), .val (.int n), .val (.int d0), .val (.int d1), .val (.int d2), .val (.int d3), .val (.int d4), .val (.ref tx), .val (.ref g), .unset, .unset]) rfl ?_
      refine g_aload cx d0_66 rfl rfl ?_
      refine g_ifnonnull_ref cx d0_68 ?_
      have J5 : ∀ (h : Heap) (nz lv : Int32), ObG Z h g (.int ng) (.int fi) (.int la) (.int po) (.long pw) → own_A n en 5 lv → own_B (own_ch d0 d1 d2 d3 d4) en 5 nz → G p l e room_1 s m #[.int ia, .int ib, .int ic, .int ix, .int iy, .int iz] below meth c Z.heap.size (fun v _ => v = some (.int 1)) h 10 104 248 #[.val (.int ia), .val (.int ib), .val (.int ic), .val (.int ix), .val (.int iy), .val (.int iz), .val (.int n), .val (.int d0), .val (.int d1), .val (.int d2), .val (.int d3), .val (.int d4), .val (.ref tx), .val (.ref g), .val (.int nz), .val (.int lv)] [] := by
        intro h nz lv O_g hSA hSB
        rcases own_fin hPP n5 hzA hzB hSB with ⟨ei, en_⟩ | ⟨ei, en_⟩
        · subst en_
          refine g_aload cx d0_248 rfl rfl ?_
          refine g_virtual cx (y := (⟨"com/example/crisp_typedef/crisptypedef/NumberText$Significand", "isZero", "()Z"⟩ : MethodName)) (z := (⟨"com/example/crisp_typedef/crisptypedef/NumberText$Significand", "isZero", "()Z"⟩ : MethodName)) (a := g) d0_250 (hw _ (List.mem_of_getElem? (i := 159) rfl)) (hw _ (List.mem_of_getElem? (i := 160) rfl)) (hw _ (List.mem_of_getElem? (i := 128) rfl)) (hw _ (List.mem_of_getElem? (i := 163) rfl)) (hw _ (List.mem_of_getElem? (i := 162) rfl)) (hw _ (List.mem_of_getElem? (i := 161) rfl)) rfl (by decide) O_g.1 (bytes := prog_22_method_2_code) (maxL' := 1) (M := (rmisZ l Z a0 hw g ng fi la po pw _ O_g)) rfl (lenOf pd_3 rfl) (by decide) (W := 0) (Nat.le_of_eq rfl) (by decide) (k' := 10) (n' := 104) rfl rfl (by decide) (by decide) (argsL := []) (rest := []) rfl (fun v2 h1 q3 => ?_)
          obtain ⟨rfl, rfl⟩ := q3
          rw [ei]
          refine G.cast (st' := [(.int (1 : Int32))]) ?_ rfl
          refine g_iload cx d0_253 rfl ?_
          refine g_if_ne cx d0_255 (fun q => absurd q (fun q => by revert q; decide)) (fun hc255 => ?_)
          refine g_iconst cx d0_258 (v := (1 : Int32)) rfl ?_
          refine g_goto cx d0_259 ?_
          refine g_icmp_ne cx d0_263 (fun q => absurd q (fun q => by revert q; decide)) (fun hc263 => ?_)
          refine g_iconst cx d0_266 (v := (1 : Int32)) rfl ?_
          refine g_goto cx d0_267 ?_
          refine g_retZ cx d0_271 rfl rfl (by decide) (by decide) ?_
          rfl
        · subst en_
          refine g_aload cx d0_248 rfl rfl ?_
          refine g_virtual cx (y := (⟨"com/example/crisp_typedef/crisptypedef/NumberText$Significand", "isZero", "()Z"⟩ : MethodName)) (z := (⟨"com/example/crisp_typedef/crisptypedef/NumberText$Significand", "isZero", "()Z"⟩ : MethodName)) (a := g) d0_250 (hw _ (List.mem_of_getElem? (i := 159) rfl)) (hw _ (List.mem_of_getElem? (i := 160) rfl)) (hw _ (List.mem_of_getElem? (i := 128) rfl)) (hw _ (List.mem_of_getElem? (i := 163) rfl)) (hw _ (List.mem_of_getElem? (i := 162) rfl)) (hw _ (List.mem_of_getElem? (i := 161) rfl)) rfl (by decide) O_g.1 (bytes := prog_22_method_2_code) (maxL' := 1) (M := (rmisZ l Z a0 hw g ng fi la po pw _ O_g)) rfl (lenOf pd_3 rfl) (by decide) (W := 0) (Nat.le_of_eq rfl) (by decide) (k' := 10) (n' := 104) rfl rfl (by decide) (by decide) (argsL := []) (rest := []) rfl (fun v2 h1 q3 => ?_)
          obtain ⟨rfl, rfl⟩ := q3
          rw [ei]
          refine G.cast (st' := [(.int (0 : Int32))]) ?_ rfl
          refine g_iload cx d0_253 rfl ?_
          refine g_if_ne cx d0_255 (fun hc255 => ?_) (fun q => absurd q (fun q => by revert q; decide))
          refine g_iconst cx d0_262 (v := (0 : Int32)) rfl ?_
          refine g_icmp_ne cx d0_263 (fun q => absurd q (fun q => by revert q; decide)) (fun hc263 => ?_)
          refine g_iconst cx d0_266 (v := (1 : Int32)) rfl ?_
          refine g_goto cx d0_267 ?_
          refine g_retZ cx d0_271 rfl rfl (by decide) (by decide) ?_
          rfl
      have J4 : ∀ (h : Heap) (nz lv : Int32), ObG Z h g (.int ng) (.int fi) (.int la) (.int po) (.long pw) → own_A n en 4 lv → own_B (own_ch d0 d1 d2 d3 d4) en 4 nz → G p l e room_1 s m #[.int ia, .int ib, .int ic, .int ix, .int iy, .int iz] below meth c Z.heap.size (fun v _ => v = some (.int 1)) h 10 104 212 #[.val (.int ia), .val (.int ib), .val (.int ic), .val (.int ix), .val (.int iy), .val (.int iz), .val (.int n), .val (.int d0), .val (.int d1), .val (.int d2), .val (.int d3), .val (.int d4), .val (.ref tx), .val (.ref g), .val (.int nz), .val (.int lv)] [] := by
        intro h nz lv O_g hSA hSB
        refine g_iload cx d0_212 rfl ?_
        refine g_iconst cx d0_214 (v := (4 : Int32)) rfl ?_
        refine g_icmp_le cx d0_215 (fun hc215 => ?_) (fun hc215 => ?_)
        · exact J5 _ nz lv O_g (own_Ask (show n.toInt ≤ ((4 : Nat) : Int) from own_nle hc215) hSA) (own_Bsk (show n.toInt ≤ ((4 : Nat) : Int) from own_nle hc215) hPP hSB)
        · refine g_iload cx d0_218 rfl ?_
          refine g_if_eq cx d0_220 (fun hc220 => ?_) (fun hc220 => ?_)
          · have hdd := own_Adead hc220 hSA
            exact J5 _ nz lv O_g (Or.inr ⟨hc220, Int.lt_trans hdd (by decide)⟩) (own_Bdead hdd hSB)
          · refine g_iload cx d0_223 rfl ?_
            refine g_static cx (y := (⟨"com/example/crisp_typedef/crisptypedef/SignificandIsZeroPinLaw", "isE", "(C)Z"⟩ : MethodName)) d0_225 (hw _ (List.mem_of_getElem? (i := 153) rfl)) (hw _ (List.mem_of_getElem? (i := 154) rfl)) (hw _ (List.mem_of_getElem? (i := 2) rfl)) (hw _ (List.mem_of_getElem? (i := 155) rfl)) (by decide) (bytes := method_5_code) (maxL' := 1) (M := (rmisE l Z a0 hw _ _)) rfl (lenOf pd_12 rfl) (by decide) (W := 0) (Nat.le_of_eq rfl) (by decide) (k' := 10) (n' := 104) rfl rfl (by decide) (by decide) (argsL := [(.int d4)]) (rest := []) rfl (fun v2 h1 q3 => ?_)
            obtain ⟨rfl, rfl⟩ := q3
            refine G.cast (st' := [(.int (own_isE d4))]) ?_ rfl
            refine g_if_eq cx d0_228 (fun hc228 => ?_) (fun hc228 => ?_)
            · refine g_iload cx d0_237 rfl ?_
              refine g_static cx (y := (⟨"com/example/crisp_typedef/crisptypedef/SignificandIsZeroPinLaw", "isNz", "(C)Z"⟩ : MethodName)) d0_239 (hw _ (List.mem_of_getElem? (i := 156) rfl)) (hw _ (List.mem_of_getElem? (i := 157) rfl)) (hw _ (List.mem_of_getElem? (i := 2) rfl)) (hw _ (List.mem_of_getElem? (i := 158) rfl)) (by decide) (bytes := method_6_code) (maxL' := 1) (M := (rmisN l Z a0 hw _ _)) rfl (lenOf pd_12 rfl) (by decide) (W := 0) (Nat.le_of_eq rfl) (by decide) (k' := 10) (n' := 104) rfl rfl (by decide) (by decide) (argsL := [(.int d4)]) (rest := []) rfl (fun v5 h4 q6 => ?_)
              obtain ⟨rfl, rfl⟩ := q6
              refine G.cast (st' := [(.int (own_isN d4))]) ?_ rfl
              refine g_if_eq cx d0_242 (fun hc242 => ?_) (fun hc242 => ?_)
              · have hke := own_live hc220 hSA (show ((4 : Nat) : Int) < n.toInt from Int32.lt_iff_toInt_lt.mp hc215)
                have hEE := own_isE0 hc228
                exact J5 _ nz lv O_g (own_AN (k := 4) hPP hke (show ((4 : Nat) : Int) < n.toInt from Int32.lt_iff_toInt_lt.mp hc215) hEE hc220 hSA) (own_BO (k := 4) (own_isN0 hc242) hSB)
              · refine g_iconst cx d0_245 (v := (1 : Int32)) rfl ?_
                refine g_istore cx d0_246 (Ls' := #[.val (.int ia), .val (.int ib), .val (.int ic), .val (.int ix), .val (.int iy), .val (.int iz), .val (.int n), .val (.int d0), .val (.int d1), .val (.int d2), .val (.int d3), .val (.int d4), .val (.ref tx), .val (.ref g), .val (.int (1 : Int32)), .val (.int lv)]) rfl ?_
                have hke := own_live hc220 hSA (show ((4 : Nat) : Int) < n.toInt from Int32.lt_iff_toInt_lt.mp hc215)
                have hEE := own_isE0 hc228
                exact J5 _ (1 : Int32) lv O_g (own_AN (k := 4) hPP hke (show ((4 : Nat) : Int) < n.toInt from Int32.lt_iff_toInt_lt.mp hc215) hEE hc220 hSA) (own_BN (k := 4) hPP hke (show ((4 : Nat) : Int) < n.toInt from Int32.lt_iff_toInt_lt.mp hc215) hEE (own_isN1 hc242))
            · refine g_iconst cx d0_231 (v := (0 : Int32)) rfl ?_
              refine g_istore cx d0_232 (Ls' := #[.val (.int ia), .val (.int ib), .val (.int ic), .val (.int ix), .val (.int iy), .val (.int iz), .val (.int n), .val (.int d0), .val (.int d1), .val (.int d2), .val (.int d3), .val (.int d4), .val (.ref tx), .val (.ref g), .val (.int nz), .val (.int (0 : Int32))]) rfl ?_
              refine g_goto cx d0_234 ?_
              have hke := own_live hc220 hSA (show ((4 : Nat) : Int) < n.toInt from Int32.lt_iff_toInt_lt.mp hc215)
              have hEE := own_isE1 hc228
              exact J5 _ nz (0 : Int32) O_g (own_AE (k := 4) hPP hke hEE) (own_BE (k := 4) hPP hke hEE hSB)
      have J3 : ∀ (h : Heap) (nz lv : Int32), ObG Z h g (.int ng) (.int fi) (.int la) (.int po) (.long pw) → own_A n en 3 lv → own_B (own_ch d0 d1 d2 d3 d4) en 3 nz → G p l e room_1 s m #[.int ia, .int ib, .int ic, .int ix, .int iy, .int iz] below meth c Z.heap.size (fun v _ => v = some (.int 1)) h 10 104 176 #[.val (.int ia), .val (.int ib), .val (.int ic), .val (.int ix), .val (.int iy), .val (.int iz), .val (.int n), .val (.int d0), .val (.int d1), .val (.int d2), .val (.int d3), .val (.int d4), .val (.ref tx), .val (.ref g), .val (.int nz), .val (.int lv)] [] := by
        intro h nz lv O_g hSA hSB
        refine g_iload cx d0_176 rfl ?_
        refine g_iconst cx d0_178 (v := (3 : Int32)) rfl ?_
        refine g_icmp_le cx d0_179 (fun hc179 => ?_) (fun hc179 => ?_)
        · exact J4 _ nz lv O_g (own_Ask (show n.toInt ≤ ((3 : Nat) : Int) from own_nle hc179) hSA) (own_Bsk (show n.toInt ≤ ((3 : Nat) : Int) from own_nle hc179) hPP hSB)
        · refine g_iload cx d0_182 rfl ?_
          refine g_if_eq cx d0_184 (fun hc184 => ?_) (fun hc184 => ?_)
          · have hdd := own_Adead hc184 hSA
            exact J4 _ nz lv O_g (Or.inr ⟨hc184, Int.lt_trans hdd (by decide)⟩) (own_Bdead hdd hSB)
          · refine g_iload cx d0_187 rfl ?_
            refine g_static cx (y := (⟨"com/example/crisp_typedef/crisptypedef/SignificandIsZeroPinLaw", "isE", "(C)Z"⟩ : MethodName)) d0_189 (hw _ (List.mem_of_getElem? (i := 153) rfl)) (hw _ (List.mem_of_getElem? (i := 154) rfl)) (hw _ (List.mem_of_getElem? (i := 2) rfl)) (hw _ (List.mem_of_getElem? (i := 155) rfl)) (by decide) (bytes := method_5_code) (maxL' := 1) (M := (rmisE l Z a0 hw _ _)) rfl (lenOf pd_12 rfl) (by decide) (W := 0) (Nat.le_of_eq rfl) (by decide) (k' := 10) (n' := 104) rfl rfl (by decide) (by decide) (argsL := [(.int d3)]) (rest := []) rfl (fun v2 h1 q3 => ?_)
            obtain ⟨rfl, rfl⟩ := q3
            refine G.cast (st' := [(.int (own_isE d3))]) ?_ rfl
            refine g_if_eq cx d0_192 (fun hc192 => ?_) (fun hc192 => ?_)
            · refine g_iload cx d0_201 rfl ?_
              refine g_static cx (y := (⟨"com/example/crisp_typedef/crisptypedef/SignificandIsZeroPinLaw", "isNz", "(C)Z"⟩ : MethodName)) d0_203 (hw _ (List.mem_of_getElem? (i := 156) rfl)) (hw _ (List.mem_of_getElem? (i := 157) rfl)) (hw _ (List.mem_of_getElem? (i := 2) rfl)) (hw _ (List.mem_of_getElem? (i := 158) rfl)) (by decide) (bytes := method_6_code) (maxL' := 1) (M := (rmisN l Z a0 hw _ _)) rfl (lenOf pd_12 rfl) (by decide) (W := 0) (Nat.le_of_eq rfl) (by decide) (k' := 10) (n' := 104) rfl rfl (by decide) (by decide) (argsL := [(.int d3)]) (rest := []) rfl (fun v5 h4 q6 => ?_)
              obtain ⟨rfl, rfl⟩ := q6
              refine G.cast (st' := [(.int (own_isN d3))]) ?_ rfl
              refine g_if_eq cx d0_206 (fun hc206 => ?_) (fun hc206 => ?_)
              · have hke := own_live hc184 hSA (show ((3 : Nat) : Int) < n.toInt from Int32.lt_iff_toInt_lt.mp hc179)
                have hEE := own_isE0 hc192
                exact J4 _ nz lv O_g (own_AN (k := 3) hPP hke (show ((3 : Nat) : Int) < n.toInt from Int32.lt_iff_toInt_lt.mp hc179) hEE hc184 hSA) (own_BO (k := 3) (own_isN0 hc206) hSB)
              · refine g_iconst cx d0_209 (v := (1 : Int32)) rfl ?_
                refine g_istore cx d0_210 (Ls' := #[.val (.int ia), .val (.int ib), .val (.int ic), .val (.int ix), .val (.int iy), .val (.int iz), .val (.int n), .val (.int d0), .val (.int d1), .val (.int d2), .val (.int d3), .val (.int d4), .val (.ref tx), .val (.ref g), .val (.int (1 : Int32)), .val (.int lv)]) rfl ?_
                have hke := own_live hc184 hSA (show ((3 : Nat) : Int) < n.toInt from Int32.lt_iff_toInt_lt.mp hc179)
                have hEE := own_isE0 hc192
                exact J4 _ (1 : Int32) lv O_g (own_AN (k := 3) hPP hke (show ((3 : Nat) : Int) < n.toInt from Int32.lt_iff_toInt_lt.mp hc179) hEE hc184 hSA) (own_BN (k := 3) hPP hke (show ((3 : Nat) : Int) < n.toInt from Int32.lt_iff_toInt_lt.mp hc179) hEE (own_isN1 hc206))
            · refine g_iconst cx d0_195 (v := (0 : Int32)) rfl ?_
              refine g_istore cx d0_196 (Ls' := #[.val (.int ia), .val (.int ib), .val (.int ic), .val (.int ix), .val (.int iy), .val (.int iz), .val (.int n), .val (.int d0), .val (.int d1), .val (.int d2), .val (.int d3), .val (.int d4), .val (.ref tx), .val (.ref g), .val (.int nz), .val (.int (0 : Int32))]) rfl ?_
              refine g_goto cx d0_198 ?_
              have hke := own_live hc184 hSA (show ((3 : Nat) : Int) < n.toInt from Int32.lt_iff_toInt_lt.mp hc179)
              have hEE := own_isE1 hc192
              exact J4 _ nz (0 : Int32) O_g (own_AE (k := 3) hPP hke hEE) (own_BE (k := 3) hPP hke hEE hSB)
      have J2 : ∀ (h : Heap) (nz lv : Int32), ObG Z h g (.int ng) (.int fi) (.int la) (.int po) (.long pw) → own_A n en 2 lv → own_B (own_ch d0 d1 d2 d3 d4) en 2 nz → G p l e room_1 s m #[.int ia, .int ib, .int ic, .int ix, .int iy, .int iz] below meth c Z.heap.size (fun v _ => v = some (.int 1)) h 10 104 140 #[.val (.int ia), .val (.int ib), .val (.int ic), .val (.int ix), .val (.int iy), .val (.int iz), .val (.int n), .val (.int d0), .val (.int d1), .val (.int d2), .val (.int d3), .val (.int d4), .val (.ref tx), .val (.ref g), .val (.int nz), .val (.int lv)] [] := by
        intro h nz lv O_g hSA hSB
        refine g_iload cx d0_140 rfl ?_
        refine g_iconst cx d0_142 (v := (2 : Int32)) rfl ?_
        refine g_icmp_le cx d0_143 (fun hc143 => ?_) (fun hc143 => ?_)
        · exact J3 _ nz lv O_g (own_Ask (show n.toInt ≤ ((2 : Nat) : Int) from own_nle hc143) hSA) (own_Bsk (show n.toInt ≤ ((2 : Nat) : Int) from own_nle hc143) hPP hSB)
        · refine g_iload cx d0_146 rfl ?_
          refine g_if_eq cx d0_148 (fun hc148 => ?_) (fun hc148 => ?_)
          · have hdd := own_Adead hc148 hSA
            exact J3 _ nz lv O_g (Or.inr ⟨hc148, Int.lt_trans hdd (by decide)⟩) (own_Bdead hdd hSB)
          · refine g_iload cx d0_151 rfl ?_
            refine g_static cx (y := (⟨"com/example/crisp_typedef/crisptypedef/SignificandIsZeroPinLaw", "isE", "(C)Z"⟩ : MethodName)) d0_153 (hw _ (List.mem_of_getElem? (i := 153) rfl)) (hw _ (List.mem_of_getElem? (i := 154) rfl)) (hw _ (List.mem_of_getElem? (i := 2) rfl)) (hw _ (List.mem_of_getElem? (i := 155) rfl)) (by decide) (bytes := method_5_code) (maxL' := 1) (M := (rmisE l Z a0 hw _ _)) rfl (lenOf pd_12 rfl) (by decide) (W := 0) (Nat.le_of_eq rfl) (by decide) (k' := 10) (n' := 104) rfl rfl (by decide) (by decide) (argsL := [(.int d2)]) (rest := []) rfl (fun v2 h1 q3 => ?_)
            obtain ⟨rfl, rfl⟩ := q3
            refine G.cast (st' := [(.int (own_isE d2))]) ?_ rfl
            refine g_if_eq cx d0_156 (fun hc156 => ?_) (fun hc156 => ?_)
            · refine g_iload cx d0_165 rfl ?_
              refine g_static cx (y := (⟨"com/example/crisp_typedef/crisptypedef/SignificandIsZeroPinLaw", "isNz", "(C)Z"⟩ : MethodName)) d0_167 (hw _ (List.mem_of_getElem? (i := 156) rfl)) (hw _ (List.mem_of_getElem? (i := 157) rfl)) (hw _ (List.mem_of_getElem? (i := 2) rfl)) (hw _ (List.mem_of_getElem? (i := 158) rfl)) (by decide) (bytes := method_6_code) (maxL' := 1) (M := (rmisN l Z a0 hw _ _)) rfl (lenOf pd_12 rfl) (by decide) (W := 0) (Nat.le_of_eq rfl) (by decide) (k' := 10) (n' := 104) rfl rfl (by decide) (by decide) (argsL := [(.int d2)]) (rest := []) rfl (fun v5 h4 q6 => ?_)
              obtain ⟨rfl, rfl⟩ := q6
              refine G.cast (st' := [(.int (own_isN d2))]) ?_ rfl
              refine g_if_eq cx d0_170 (fun hc170 => ?_) (fun hc170 => ?_)
              · have hke := own_live hc148 hSA (show ((2 : Nat) : Int) < n.toInt from Int32.lt_iff_toInt_lt.mp hc143)
                have hEE := own_isE0 hc156
                exact J3 _ nz lv O_g (own_AN (k := 2) hPP hke (show ((2 : Nat) : Int) < n.toInt from Int32.lt_iff_toInt_lt.mp hc143) hEE hc148 hSA) (own_BO (k := 2) (own_isN0 hc170) hSB)
              · refine g_iconst cx d0_173 (v := (1 : Int32)) rfl ?_
                refine g_istore cx d0_174 (Ls' := #[.val (.int ia), .val (.int ib), .val (.int ic), .val (.int ix), .val (.int iy), .val (.int iz), .val (.int n), .val (.int d0), .val (.int d1), .val (.int d2), .val (.int d3), .val (.int d4), .val (.ref tx), .val (.ref g), .val (.int (1 : Int32)), .val (.int lv)]) rfl ?_
                have hke := own_live hc148 hSA (show ((2 : Nat) : Int) < n.toInt from Int32.lt_iff_toInt_lt.mp hc143)
                have hEE := own_isE0 hc156
                exact J3 _ (1 : Int32) lv O_g (own_AN (k := 2) hPP hke (show ((2 : Nat) : Int) < n.toInt from Int32.lt_iff_toInt_lt.mp hc143) hEE hc148 hSA) (own_BN (k := 2) hPP hke (show ((2 : Nat) : Int) < n.toInt from Int32.lt_iff_toInt_lt.mp hc143) hEE (own_isN1 hc170))
            · refine g_iconst cx d0_159 (v := (0 : Int32)) rfl ?_
              refine g_istore cx d0_160 (Ls' := #[.val (.int ia), .val (.int ib), .val (.int ic), .val (.int ix), .val (.int iy), .val (.int iz), .val (.int n), .val (.int d0), .val (.int d1), .val (.int d2), .val (.int d3), .val (.int d4), .val (.ref tx), .val (.ref g), .val (.int nz), .val (.int (0 : Int32))]) rfl ?_
              refine g_goto cx d0_162 ?_
              have hke := own_live hc148 hSA (show ((2 : Nat) : Int) < n.toInt from Int32.lt_iff_toInt_lt.mp hc143)
              have hEE := own_isE1 hc156
              exact J3 _ nz (0 : Int32) O_g (own_AE (k := 2) hPP hke hEE) (own_BE (k := 2) hPP hke hEE hSB)
      have J1 : ∀ (h : Heap) (nz lv : Int32), ObG Z h g (.int ng) (.int fi) (.int la) (.int po) (.long pw) → own_A n en 1 lv → own_B (own_ch d0 d1 d2 d3 d4) en 1 nz → G p l e room_1 s m #[.int ia, .int ib, .int ic, .int ix, .int iy, .int iz] below meth c Z.heap.size (fun v _ => v = some (.int 1)) h 10 104 104 #[.val (.int ia), .val (.int ib), .val (.int ic), .val (.int ix), .val (.int iy), .val (.int iz), .val (.int n), .val (.int d0), .val (.int d1), .val (.int d2), .val (.int d3), .val (.int d4), .val (.ref tx), .val (.ref g), .val (.int nz), .val (.int lv)] [] := by
        intro h nz lv O_g hSA hSB
        refine g_iload cx d0_104 rfl ?_
        refine g_iconst cx d0_106 (v := (1 : Int32)) rfl ?_
        refine g_icmp_le cx d0_107 (fun hc107 => ?_) (fun hc107 => ?_)
        · exact J2 _ nz lv O_g (own_Ask (show n.toInt ≤ ((1 : Nat) : Int) from own_nle hc107) hSA) (own_Bsk (show n.toInt ≤ ((1 : Nat) : Int) from own_nle hc107) hPP hSB)
        · refine g_iload cx d0_110 rfl ?_
          refine g_if_eq cx d0_112 (fun hc112 => ?_) (fun hc112 => ?_)
          · have hdd := own_Adead hc112 hSA
            exact J2 _ nz lv O_g (Or.inr ⟨hc112, Int.lt_trans hdd (by decide)⟩) (own_Bdead hdd hSB)
          · refine g_iload cx d0_115 rfl ?_
            refine g_static cx (y := (⟨"com/example/crisp_typedef/crisptypedef/SignificandIsZeroPinLaw", "isE", "(C)Z"⟩ : MethodName)) d0_117 (hw _ (List.mem_of_getElem? (i := 153) rfl)) (hw _ (List.mem_of_getElem? (i := 154) rfl)) (hw _ (List.mem_of_getElem? (i := 2) rfl)) (hw _ (List.mem_of_getElem? (i := 155) rfl)) (by decide) (bytes := method_5_code) (maxL' := 1) (M := (rmisE l Z a0 hw _ _)) rfl (lenOf pd_12 rfl) (by decide) (W := 0) (Nat.le_of_eq rfl) (by decide) (k' := 10) (n' := 104) rfl rfl (by decide) (by decide) (argsL := [(.int d1)]) (rest := []) rfl (fun v2 h1 q3 => ?_)
            obtain ⟨rfl, rfl⟩ := q3
            refine G.cast (st' := [(.int (own_isE d1))]) ?_ rfl
            refine g_if_eq cx d0_120 (fun hc120 => ?_) (fun hc120 => ?_)
            · refine g_iload cx d0_129 rfl ?_
              refine g_static cx (y := (⟨"com/example/crisp_typedef/crisptypedef/SignificandIsZeroPinLaw", "isNz", "(C)Z"⟩ : MethodName)) d0_131 (hw _ (List.mem_of_getElem? (i := 156) rfl)) (hw _ (List.mem_of_getElem? (i := 157) rfl)) (hw _ (List.mem_of_getElem? (i := 2) rfl)) (hw _ (List.mem_of_getElem? (i := 158) rfl)) (by decide) (bytes := method_6_code) (maxL' := 1) (M := (rmisN l Z a0 hw _ _)) rfl (lenOf pd_12 rfl) (by decide) (W := 0) (Nat.le_of_eq rfl) (by decide) (k' := 10) (n' := 104) rfl rfl (by decide) (by decide) (argsL := [(.int d1)]) (rest := []) rfl (fun v5 h4 q6 => ?_)
              obtain ⟨rfl, rfl⟩ := q6
              refine G.cast (st' := [(.int (own_isN d1))]) ?_ rfl
              refine g_if_eq cx d0_134 (fun hc134 => ?_) (fun hc134 => ?_)
              · have hke := own_live hc112 hSA (show ((1 : Nat) : Int) < n.toInt from Int32.lt_iff_toInt_lt.mp hc107)
                have hEE := own_isE0 hc120
                exact J2 _ nz lv O_g (own_AN (k := 1) hPP hke (show ((1 : Nat) : Int) < n.toInt from Int32.lt_iff_toInt_lt.mp hc107) hEE hc112 hSA) (own_BO (k := 1) (own_isN0 hc134) hSB)
              · refine g_iconst cx d0_137 (v := (1 : Int32)) rfl ?_
                refine g_istore cx d0_138 (Ls' := #[.val (.int ia), .val (.int ib), .val (.int ic), .val (.int ix), .val (.int iy), .val (.int iz), .val (.int n), .val (.int d0), .val (.int d1), .val (.int d2), .val (.int d3), .val (.int d4), .val (.ref tx), .val (.ref g), .val (.int (1 : Int32)), .val (.int lv)]) rfl ?_
                have hke := own_live hc112 hSA (show ((1 : Nat) : Int) < n.toInt from Int32.lt_iff_toInt_lt.mp hc107)
                have hEE := own_isE0 hc120
                exact J2 _ (1 : Int32) lv O_g (own_AN (k := 1) hPP hke (show ((1 : Nat) : Int) < n.toInt from Int32.lt_iff_toInt_lt.mp hc107) hEE hc112 hSA) (own_BN (k := 1) hPP hke (show ((1 : Nat) : Int) < n.toInt from Int32.lt_iff_toInt_lt.mp hc107) hEE (own_isN1 hc134))
            · refine g_iconst cx d0_123 (v := (0 : Int32)) rfl ?_
              refine g_istore cx d0_124 (Ls' := #[.val (.int ia), .val (.int ib), .val (.int ic), .val (.int ix), .val (.int iy), .val (.int iz), .val (.int n), .val (.int d0), .val (.int d1), .val (.int d2), .val (.int d3), .val (.int d4), .val (.ref tx), .val (.ref g), .val (.int nz), .val (.int (0 : Int32))]) rfl ?_
              refine g_goto cx d0_126 ?_
              have hke := own_live hc112 hSA (show ((1 : Nat) : Int) < n.toInt from Int32.lt_iff_toInt_lt.mp hc107)
              have hEE := own_isE1 hc120
              exact J2 _ nz (0 : Int32) O_g (own_AE (k := 1) hPP hke hEE) (own_BE (k := 1) hPP hke hEE hSB)
      have hSA : own_A n en 0 (1 : Int32) := Or.inl ⟨rfl, Or.inl (by obtain ⟨f1, f2, f3, f4, -⟩ := hPP; omega)⟩
      have hSB : own_B (own_ch d0 d1 d2 d3 d4) en 0 (0 : Int32) := Or.inl ⟨rfl, fun j _ q => absurd q (Nat.not_lt_zero _)⟩
      refine g_iconst cx d0_73 (v := (0 : Int32)) rfl ?_
      refine g_istore cx d0_74 (Ls' := #[.val (.int ia), .val (.int ib), .val (.int ic), .val (.int ix), .val (.int iy), .val (.int iz), .val (.int n), .val (.int d0), .val (.int d1), .val (.int d2), .val (.int d3), .val (.int d4), .val (.ref tx), .val (.ref g), .val (.int (0 : Int32)), .unset]) rfl ?_
      refine g_iconst cx d0_76 (v := (1 : Int32)) rfl ?_
      refine g_istore cx d0_77 (Ls' := #[.val (.int ia), .val (.int ib), .val (.int ic), .val (.int ix), .val (.int iy), .val (.int iz), .val (.int n), .val (.int d0), .val (.int d1), .val (.int d2), .val (.int d3), .val (.int d4), .val (.ref tx), .val (.ref g), .val (.int (0 : Int32)), .val (.int (1 : Int32))]) rfl ?_
      refine g_iload cx d0_79 rfl ?_
      refine g_static cx (y := (⟨"com/example/crisp_typedef/crisptypedef/SignificandIsZeroPinLaw", "isE", "(C)Z"⟩ : MethodName)) d0_81 (hw _ (List.mem_of_getElem? (i := 153) rfl)) (hw _ (List.mem_of_getElem? (i := 154) rfl)) (hw _ (List.mem_of_getElem? (i := 2) rfl)) (hw _ (List.mem_of_getElem? (i := 155) rfl)) (by decide) (bytes := method_5_code) (maxL' := 1) (M := (rmisE l Z a0 hw _ _)) rfl (lenOf pd_12 rfl) (by decide) (W := 0) (Nat.le_of_eq rfl) (by decide) (k' := 10) (n' := 104) rfl rfl (by decide) (by decide) (argsL := [(.int d0)]) (rest := []) rfl (fun v505 h504 q506 => ?_)
      obtain ⟨rfl, rfl⟩ := q506
      refine G.cast (st' := [(.int (own_isE d0))]) ?_ rfl
      refine g_if_eq cx d0_84 (fun hc84 => ?_) (fun hc84 => ?_)
      · refine g_iload cx d0_93 rfl ?_
        refine g_static cx (y := (⟨"com/example/crisp_typedef/crisptypedef/SignificandIsZeroPinLaw", "isNz", "(C)Z"⟩ : MethodName)) d0_95 (hw _ (List.mem_of_getElem? (i := 156) rfl)) (hw _ (List.mem_of_getElem? (i := 157) rfl)) (hw _ (List.mem_of_getElem? (i := 2) rfl)) (hw _ (List.mem_of_getElem? (i := 158) rfl)) (by decide) (bytes := method_6_code) (maxL' := 1) (M := (rmisN l Z a0 hw _ _)) rfl (lenOf pd_12 rfl) (by decide) (W := 0) (Nat.le_of_eq rfl) (by decide) (k' := 10) (n' := 104) rfl rfl (by decide) (by decide) (argsL := [(.int d0)]) (rest := []) rfl (fun v508 h507 q509 => ?_)
        obtain ⟨rfl, rfl⟩ := q509
        refine G.cast (st' := [(.int (own_isN d0))]) ?_ rfl
        refine g_if_eq cx d0_98 (fun hc98 => ?_) (fun hc98 => ?_)
        · have hke := own_live (by decide) hSA (show ((0 : Nat) : Int) < n.toInt by omega)
          have hEE := own_isE0 hc84
          exact J1 _ (0 : Int32) (1 : Int32) O_g (own_AN (k := 0) hPP hke (show ((0 : Nat) : Int) < n.toInt by omega) hEE (by decide) hSA) (own_BO (k := 0) (own_isN0 hc98) hSB)
        · refine g_iconst cx d0_101 (v := (1 : Int32)) rfl ?_
          refine g_istore cx d0_102 (Ls' := #[.val (.int ia), .val (.int ib), .val (.int ic), .val (.int ix), .val (.int iy), .val (.int iz), .val (.int n), .val (.int d0), .val (.int d1), .val (.int d2), .val (.int d3), .val (.int d4), .val (.ref tx), .val (.ref g), .val (.int (1 : Int32)), .val (.int (1 : Int32))]) rfl ?_
          have hke := own_live (by decide) hSA (show ((0 : Nat) : Int) < n.toInt by omega)
          have hEE := own_isE0 hc84
          exact J1 _ (1 : Int32) (1 : Int32) O_g (own_AN (k := 0) hPP hke (show ((0 : Nat) : Int) < n.toInt by omega) hEE (by decide) hSA) (own_BN (k := 0) hPP hke (show ((0 : Nat) : Int) < n.toInt by omega) hEE (own_isN1 hc98))
      · refine g_iconst cx d0_87 (v := (0 : Int32)) rfl ?_
        refine g_istore cx d0_88 (Ls' := #[.val (.int ia), .val (.int ib), .val (.int ic), .val (.int ix), .val (.int iy), .val (.int iz), .val (.int n), .val (.int d0), .val (.int d1), .val (.int d2), .val (.int d3), .val (.int d4), .val (.ref tx), .val (.ref g), .val (.int (0 : Int32)), .val (.int (0 : Int32))]) rfl ?_
        refine g_goto cx d0_90 ?_
        have hke := own_live (by decide) hSA (show ((0 : Nat) : Int) < n.toInt by omega)
        have hEE := own_isE1 hc84
        exact J1 _ (0 : Int32) (0 : Int32) O_g (own_AE (k := 0) hPP hke hEE) (own_BE (k := 0) hPP hke hEE hSB)
  refine g_iload cx d0_42 rfl ?_
  refine g_iload cx d0_44 rfl ?_
  refine g_iload cx d0_46 rfl ?_
  refine g_iload cx d0_48 rfl ?_
  refine g_iload cx d0_50 rfl ?_
  refine g_iload cx d0_52 rfl ?_
  have Dhs16 : (((iz &&& (7 : Int32)) % (5 : Int32)) + (1 : Int32)) = (1 : Int32) ∨ (((iz &&& (7 : Int32)) % (5 : Int32)) + (1 : Int32)) = (2 : Int32) ∨ (((iz &&& (7 : Int32)) % (5 : Int32)) + (1 : Int32)) = (3 : Int32) ∨ (((iz &&& (7 : Int32)) % (5 : Int32)) + (1 : Int32)) = (4 : Int32) ∨ (((iz &&& (7 : Int32)) % (5 : Int32)) + (1 : Int32)) = (5 : Int32) := by
    have r4 := rng32 iz
    have e3 : ((iz &&& (7 : Int32))).toInt = (iz).toInt % 8 := c_mask iz (7 : Int32) 3 (by decide) (by decide)
    have e2 : (0 ≤ ((iz &&& (7 : Int32))).toInt → (((iz &&& (7 : Int32)) % (5 : Int32))).toInt = ((iz &&& (7 : Int32))).toInt % 5) ∧ (((iz &&& (7 : Int32))).toInt < 0 → (((iz &&& (7 : Int32)) % (5 : Int32))).toInt = -((-((iz &&& (7 : Int32))).toInt) % 5)) := c_irem (iz &&& (7 : Int32)) (5 : Int32) 5 rfl
    have e5 : (1 : Int32).toInt = 1 := rfl
    have e1 := c_iadd ((iz &&& (7 : Int32)) % (5 : Int32)) (1 : Int32)
    have r1 := rng32 (((iz &&& (7 : Int32)) % (5 : Int32)) + (1 : Int32))
    have e6 : (2 : Int32).toInt = 2 := rfl
    have e7 : (3 : Int32).toInt = 3 := rfl
    have e8 : (4 : Int32).toInt = 4 := rfl
    have e9 : (5 : Int32).toInt = 5 := rfl
    simp only [← Int32.toInt_inj]
    omega
  rcases Dhs16 with hs16 | hs16 | hs16 | hs16 | hs16
  · rw [hs16]
    refine g_static cx (y := (⟨"com/example/crisp_typedef/crisptypedef/SignificandIsZeroPinLaw", "build", "(ICCCCC)Ljava/lang/String;"⟩ : MethodName)) d0_54 (hw _ (List.mem_of_getElem? (i := 5) rfl)) (hw _ (List.mem_of_getElem? (i := 6) rfl)) (hw _ (List.mem_of_getElem? (i := 2) rfl)) (hw _ (List.mem_of_getElem? (i := 7) rfl)) (by decide) (bytes := method_4_code) (maxL' := 6) (M := (rmbu1 l Z a0 hw cs SCS hcs d0 d1 d2 d3 d4 lo0 hi0 lo1 hi1 lo2 hi2 lo3 hi3 lo4 hi4 _ OL)) rfl (lenOf pd_20 rfl) (by decide) (W := 0) (Nat.le_of_eq rfl) (by decide) (k' := 8) (n' := 86) rfl rfl (by decide) (by decide) (argsL := [(.int (1 : Int32)), (.int d0), (.int d1), (.int d2), (.int d3), (.int d4)]) (rest := []) rfl (fun v18 h17 q19 => ?_)
    obtain ⟨tx, rfl, KB, st_tx, TT⟩ := q19
    have OL := OL.keep KB all0
    refine G.cast (st' := [(.ref tx)]) ?_ rfl
    exact (J57 (1 : Int32) tx _ (by decide) (by decide) OL TT).mono (by decide) (by decide)
  · rw [hs16]
    refine g_static cx (y := (⟨"com/example/crisp_typedef/crisptypedef/SignificandIsZeroPinLaw", "build", "(ICCCCC)Ljava/lang/String;"⟩ : MethodName)) d0_54 (hw _ (List.mem_of_getElem? (i := 5) rfl)) (hw _ (List.mem_of_getElem? (i := 6) rfl)) (hw _ (List.mem_of_getElem? (i := 2) rfl)) (hw _ (List.mem_of_getElem? (i := 7) rfl)) (by decide) (bytes := method_4_code) (maxL' := 6) (M := (rmbu2 l Z a0 hw cs SCS hcs d0 d1 d2 d3 d4 lo0 hi0 lo1 hi1 lo2 hi2 lo3 hi3 lo4 hi4 _ OL)) rfl (lenOf pd_20 rfl) (by decide) (W := 0) (Nat.le_of_eq rfl) (by decide) (k' := 8) (n' := 88) rfl rfl (by decide) (by decide) (argsL := [(.int (2 : Int32)), (.int d0), (.int d1), (.int d2), (.int d3), (.int d4)]) (rest := []) rfl (fun v21 h20 q22 => ?_)
    obtain ⟨tx, rfl, KB, st_tx, TT⟩ := q22
    have OL := OL.keep KB all0
    refine G.cast (st' := [(.ref tx)]) ?_ rfl
    exact (J57 (2 : Int32) tx _ (by decide) (by decide) OL TT).mono (by decide) (by decide)
  · rw [hs16]
    refine g_static cx (y := (⟨"com/example/crisp_typedef/crisptypedef/SignificandIsZeroPinLaw", "build", "(ICCCCC)Ljava/lang/String;"⟩ : MethodName)) d0_54 (hw _ (List.mem_of_getElem? (i := 5) rfl)) (hw _ (List.mem_of_getElem? (i := 6) rfl)) (hw _ (List.mem_of_getElem? (i := 2) rfl)) (hw _ (List.mem_of_getElem? (i := 7) rfl)) (by decide) (bytes := method_4_code) (maxL' := 6) (M := (rmbu3 l Z a0 hw cs SCS hcs d0 d1 d2 d3 d4 lo0 hi0 lo1 hi1 lo2 hi2 lo3 hi3 lo4 hi4 _ OL)) rfl (lenOf pd_20 rfl) (by decide) (W := 0) (Nat.le_of_eq rfl) (by decide) (k' := 8) (n' := 90) rfl rfl (by decide) (by decide) (argsL := [(.int (3 : Int32)), (.int d0), (.int d1), (.int d2), (.int d3), (.int d4)]) (rest := []) rfl (fun v24 h23 q25 => ?_)
    obtain ⟨tx, rfl, KB, st_tx, TT⟩ := q25
    have OL := OL.keep KB all0
    refine G.cast (st' := [(.ref tx)]) ?_ rfl
    exact (J57 (3 : Int32) tx _ (by decide) (by decide) OL TT).mono (by decide) (by decide)
  · rw [hs16]
    refine g_static cx (y := (⟨"com/example/crisp_typedef/crisptypedef/SignificandIsZeroPinLaw", "build", "(ICCCCC)Ljava/lang/String;"⟩ : MethodName)) d0_54 (hw _ (List.mem_of_getElem? (i := 5) rfl)) (hw _ (List.mem_of_getElem? (i := 6) rfl)) (hw _ (List.mem_of_getElem? (i := 2) rfl)) (hw _ (List.mem_of_getElem? (i := 7) rfl)) (by decide) (bytes := method_4_code) (maxL' := 6) (M := (rmbu4 l Z a0 hw cs SCS hcs d0 d1 d2 d3 d4 lo0 hi0 lo1 hi1 lo2 hi2 lo3 hi3 lo4 hi4 _ OL)) rfl (lenOf pd_20 rfl) (by decide) (W := 0) (Nat.le_of_eq rfl) (by decide) (k' := 8) (n' := 92) rfl rfl (by decide) (by decide) (argsL := [(.int (4 : Int32)), (.int d0), (.int d1), (.int d2), (.int d3), (.int d4)]) (rest := []) rfl (fun v27 h26 q28 => ?_)
    obtain ⟨tx, rfl, KB, st_tx, TT⟩ := q28
    have OL := OL.keep KB all0
    refine G.cast (st' := [(.ref tx)]) ?_ rfl
    exact (J57 (4 : Int32) tx _ (by decide) (by decide) OL TT).mono (by decide) (by decide)
  · rw [hs16]
    refine g_static cx (y := (⟨"com/example/crisp_typedef/crisptypedef/SignificandIsZeroPinLaw", "build", "(ICCCCC)Ljava/lang/String;"⟩ : MethodName)) d0_54 (hw _ (List.mem_of_getElem? (i := 5) rfl)) (hw _ (List.mem_of_getElem? (i := 6) rfl)) (hw _ (List.mem_of_getElem? (i := 2) rfl)) (hw _ (List.mem_of_getElem? (i := 7) rfl)) (by decide) (bytes := method_4_code) (maxL' := 6) (M := (rmbu5 l Z a0 hw cs SCS hcs d0 d1 d2 d3 d4 lo0 hi0 lo1 hi1 lo2 hi2 lo3 hi3 lo4 hi4 _ OL)) rfl (lenOf pd_20 rfl) (by decide) (W := 0) (Nat.le_of_eq rfl) (by decide) (k' := 8) (n' := 94) rfl rfl (by decide) (by decide) (argsL := [(.int (5 : Int32)), (.int d0), (.int d1), (.int d2), (.int d3), (.int d4)]) (rest := []) rfl (fun v30 h29 q31 => ?_)
    obtain ⟨tx, rfl, KB, st_tx, TT⟩ := q31
    have OL := OL.keep KB all0
    refine G.cast (st' := [(.ref tx)]) ?_ rfl
    exact (J57 (5 : Int32) tx _ (by decide) (by decide) OL TT).mono (by decide) (by decide)
theorem own_staR {s : State} {args : Array Value} {C f d : String} (hi : (Jvm.Cond.initializedFor C f d).before args s = true) (h1 : (Jvm.Cond.isRef (.static C f d)).before args s = true) : ∃ fv, (fv = .null ∨ ∃ fa, fv = .ref fa) ∧ Sta s s.heap C f d fv := by
  have h2 := Cond.before_iff.mp h1
  cases ev : (Term.static C f d).eval args s none [] s with
  | none => simp [Cond.value, ev] at h2
  | some v =>
    refine ⟨v, ?_, Sta.start ev (Or.inl hi)⟩
    cases v <;> first | exact Or.inl rfl | exact Or.inr ⟨_, rfl⟩ | (simp [Cond.value, ev] at h2)
set_option maxRecDepth 65536 in
set_option maxHeartbeats 40000000 in
theorem comes_1 {Post : Tables → Env → Array Value → State → Outcome → State → Prop} (hpost : ∀ tb e args s v u, (limb_1_1.after args s (.returned v) u = true ∧ limb_1_2.after args s (.returned v) u = true ∧ True) → FrameEnd s (.returned v) u (Jvm.fieldLocs frame_1_writes args s ++ Jvm.arrayLocs frame_1_arrays args s ++ Jvm.staticLocs frame_1_statics s) 32 320 → Post tb e args s (.returned v) u) :
    ArmFor flags0 classFile x code maxLocals ret World_1 tables_1 room_1 Calls_1 rest_1 Pre_1 Post := by
  intro l hfl _ _ p e ha hc hk s m args below hf hA hF happ hP
  obtain ⟨hcalls, hrest, hpre⟩ := hP
  obtain ⟨-, -, -, hnamed, -, -, -, hat⟩ := (Spec.applies_iff hf).mp happ
  obtain ⟨hg, hn⟩ := and_e (Cond.before_iff.mp (show (Jvm.Cond.and given_1 narrow_1).before args s = true from hpre))
  obtain ⟨g1, g2⟩ := and_e hg
  obtain ⟨g3, g4⟩ := and_e g2
  obtain ⟨g5, g6⟩ := and_e g4
  obtain ⟨g7, g8⟩ := and_e g6
  obtain ⟨g9, g10⟩ := and_e g8
  obtain ⟨g11, g12⟩ := and_e g10
  obtain ⟨w0, w1, w2, w3, w4, w5, rfl⟩ : ∃ w0 w1 w2 w3 w4 w5 : Value, args = #[w0, w1, w2, w3, w4, w5] := by
    have hs : args.size = 6 := by simpa [Cond.value, given_1] using g1
    obtain ⟨L⟩ := args
    match L, hs with
    | [w0, w1, w2, w3, w4, w5], _ => exact ⟨w0, w1, w2, w3, w4, w5, rfl⟩
  have hw := fun d (hd : d ∈ tables_1) => atoms_spec (ws := Jvm.Cond.code x code maxLocals ret :: tables_1) hat d (List.mem_cons_of_mem _ hd)
  have hfit : Fit s := fun {y c} hc i hi => by
    obtain ⟨ha, rfl⟩ := Array.getElem?_eq_some_iff.mp hc
    have q := List.all_eq_true.mp ((Array.all_eq_true_iff_forall_mem.mp hF) _ (Array.getElem_mem ha)) i (List.mem_range.mpr hi)
    simpa [Array.getElem?_eq_getElem hi] using q
  obtain ⟨i0, ei0⟩ := is_v g3
  obtain rfl : w0 = (.int i0) := Option.some.inj ei0
  obtain ⟨i1, ei1⟩ := is_v g5
  obtain rfl : w1 = (.int i1) := Option.some.inj ei1
  obtain ⟨i2, ei2⟩ := is_v g7
  obtain rfl : w2 = (.int i2) := Option.some.inj ei2
  obtain ⟨i3, ei3⟩ := is_v g9
  obtain rfl : w3 = (.int i3) := Option.some.inj ei3
  obtain ⟨i4, ei4⟩ := is_v g11
  obtain rfl : w4 = (.int i4) := Option.some.inj ei4
  obtain ⟨i5, ei5⟩ := is_v g12
  obtain rfl : w5 = (.int i5) := Option.some.inj ei5
  obtain ⟨hsets, hown0⟩ := atoms_of _ (rest_1_c_eq ▸ (show rest_1_c.before _ s = true from hrest))
  obtain ⟨cs, SCS, ecs⟩ := sta_int (hsets _ (List.mem_of_getElem? (i := 0) rfl)) (hsets _ (List.mem_of_getElem? (i := 1) rfl))
  have hcs := ne_of_not ecs (hsets _ (List.mem_of_getElem? (i := 2) rfl))
  obtain ⟨fv, hfv, SFV⟩ := own_staR (hsets _ (List.mem_of_getElem? (i := 7) rfl)) (hsets _ (List.mem_of_getElem? (i := 8) rfl))
  obtain ⟨n, o, h1, h2, h3, _, L, rfl, ⟨rfl, N⟩, hq⟩ := rm0 l s _ hw i0 i1 i2 i3 i4 i5 cs SCS hcs fv hfv SFV s.heap (Old.start s) tables_1 p e ha hc hk s m _ below hf ((Spec.applies_iff_loose hf).mp happ).1 ⟨rfl, State.Warmed39.refl s, rfl⟩ trivial
  refine ⟨n, _, h1, h2, h3, hpost _ _ _ _ _ _ ⟨Cond.after_iff.mpr rfl, Cond.after_iff.mpr (eq_i res_at (Term.int_eval (1)) rfl), trivial⟩ ⟨hq.1, hq.2.1, (hq.2.2.sift fun y hy => Or.inr (N y hy)).mono (by decide) (by decide)⟩⟩
theorem main_1_1 : Claimed_1_1 := comes_1 fun _ _ _ _ _ _ h hF => ⟨h.1, hF⟩
theorem main_1_2 : Claimed_1_2 := comes_1 fun _ _ _ _ _ _ h hF => ⟨h.2.1, hF⟩
end Jvm.Pilot.@@N@@
namespace Jvm.Pilot.@@N@@
open Jvm Jvm.ClassFile Sem Op Lib Jvm.Free Jvm.Stand Jvm.Pilot.@@N@@.Jvm.D
/-! MADE BY PROGRAM (witnessworld.py) out of the Statement's table words and the real class files: 23 classes; the members and pool entries that the words name. The judged class is class 1, her method 1. -/
namespace start1
open Jvm.ClassFile
def u (s : String) : CpInfo := .utf8 (stringToUtf16 s)
/-- a pool by its gaps: so many unusable entries, then the entry; so many at the end -/
def gap : Nat → List CpInfo → List CpInfo
  | 0, r => r
  | n + 1, r => .unusable :: gap n r
def poolList (es : List (Nat × CpInfo)) (last : Nat) : List CpInfo := es.foldr (fun e r => gap e.1 (e.2 :: r)) (gap last [])
def pool (es : List (Nat × CpInfo)) (last : Nat) : Array CpInfo := ⟨poolList es last⟩
def fileOf (pool : Array CpInfo) (this : Nat) (attrs : Array Attribute := #[]) (ms : Array MethodInfo := #[]) (fl : Nat := 33) (sup : Nat := 0) (ifs : Array Nat := #[]) (fds : Array FieldInfo := #[]) : ClassFile where
  minorVersion := 0
  majorVersion := 65
  constantPool := pool
  accessFlags := fl
  thisClass := this
  superClass := sup
  interfaces := ifs
  fields := fds
  methods := ms
  attributes := attrs
def plain (name : String) (sup : Option ClassId) : Class where
  name := name
  kind := .ordinary
  loader := none
  accessFlags := 33
  super := sup
  interfaces := #[]
  cf := none
  fields := #[]
  methods := #[]
  instanceTypes := #[]
  staticTypes := #[]
  resolved := #[]
  callSites := []
  init := .initialized
  statics := none
  mirror := none

def pool0 : Array CpInfo := pool [(5, u "<init>"), (0, u "()V"), (1, .class_ 10), (1, u "java/lang/Object")] 113

def k0c0 : Code := { maxStack := 0, maxLocals := 1, code := object_method_1_code, exceptionTable := #[], attributes := #[] }
def k0m0 : Method := { name := "<init>", desc := "()V", sig := { parameters := [], returnType := none }, accessFlags := 1, code := some k0c0 }
/-- java/lang/Object -/
def k0 : Class := { plain "java/lang/Object" none with
  accessFlags := 33
  interfaces := #[]
  cf := some (fileOf pool0 8 #[] #[{ accessFlags := 1, nameIndex := 5, descriptorIndex := 6, attributes := #[] }] 33 0 #[] #[])
  fields := #[]
  methods := #[k0m0]
  instanceTypes := #[]
  staticTypes := #[]
  resolved := Array.replicate 124 none
  statics := none }

def pool1 : Array CpInfo := pool [(2, .class_ 4), (1, u "java/lang/Object"), (0, u "<init>"), (0, u "()V"), (0, .methodref 8 9), (0, .class_ 10), (0, .nameAndType 11 12), (0, u "com/example/crisp_typedef/crisptypedef/SignificandIsZeroPinLaw"), (0, u "pick"), (0, u "(I)C"), (0, .methodref 8 14), (0, .nameAndType 15 16), (0, u "build"), (0, u "(ICCCCC)Ljava/lang/String;"), (0, .methodref 18 19), (0, .class_ 20), (0, .nameAndType 21 22), (0, u "com/example/crisp_typedef/crisptypedef/NumberText"), (0, u "significand"), (0, u "(Ljava/lang/CharSequence;)Lcom/example/crisp_typedef/crisptypedef/NumberText$Significand;"), (0, .methodref 8 24), (0, .nameAndType 25 26), (0, u "isE"), (0, u "(C)Z"), (0, .methodref 8 28), (0, .nameAndType 29 26), (0, u "isNz"), (0, .methodref 31 32), (0, .class_ 33), (0, .nameAndType 34 35), (0, u "com/example/crisp_typedef/crisptypedef/NumberText$Significand"), (0, u "isZero"), (0, u "()Z"), (0, .class_ 37), (0, u "java/lang/String"), (0, .methodref 36 39), (0, .nameAndType 5 40), (0, u "([C)V"), (2, u "law"), (0, u "(IIIIII)Z")] 5

def k1m0 : Method := { name := "<init>", desc := "()V", sig := { parameters := [], returnType := none }, accessFlags := 1, code := none }
def k1c1 : Code := { maxStack := 6, maxLocals := 16, code := code, exceptionTable := #[], attributes := #[] }
def k1m1 : Method := { name := "law", desc := "(IIIIII)Z", sig := { parameters := [.int, .int, .int, .int, .int, .int], returnType := some .boolean }, accessFlags := 9, code := some k1c1 }
def k1c2 : Code := { maxStack := 4, maxLocals := 2, code := method_3_code, exceptionTable := #[], attributes := #[] }
def k1m2 : Method := { name := "pick", desc := "(I)C", sig := { parameters := [.int], returnType := some .char }, accessFlags := 10, code := some k1c2 }
def k1c3 : Code := { maxStack := 6, maxLocals := 6, code := method_4_code, exceptionTable := #[], attributes := #[] }
def k1m3 : Method := { name := "build", desc := "(ICCCCC)Ljava/lang/String;", sig := { parameters := [.int, .char, .char, .char, .char, .char], returnType := some (.object "java/lang/String") }, accessFlags := 10, code := some k1c3 }
def k1c4 : Code := { maxStack := 2, maxLocals := 1, code := method_5_code, exceptionTable := #[], attributes := #[] }
def k1m4 : Method := { name := "isE", desc := "(C)Z", sig := { parameters := [.char], returnType := some .boolean }, accessFlags := 10, code := some k1c4 }
def k1c5 : Code := { maxStack := 2, maxLocals := 1, code := method_6_code, exceptionTable := #[], attributes := #[] }
def k1m5 : Method := { name := "isNz", desc := "(C)Z", sig := { parameters := [.char], returnType := some .boolean }, accessFlags := 10, code := some k1c5 }
/-- com/example/crisp_typedef/crisptypedef/SignificandIsZeroPinLaw -/
def k1 : Class := { plain "com/example/crisp_typedef/crisptypedef/SignificandIsZeroPinLaw" (some 0) with
  accessFlags := 49
  interfaces := #[]
  cf := some (fileOf pool1 8 #[] #[{ accessFlags := 1, nameIndex := 5, descriptorIndex := 6, attributes := #[] }, { accessFlags := 9, nameIndex := 43, descriptorIndex := 44, attributes := #[] }, { accessFlags := 10, nameIndex := 11, descriptorIndex := 12, attributes := #[] }, { accessFlags := 10, nameIndex := 15, descriptorIndex := 16, attributes := #[] }, { accessFlags := 10, nameIndex := 25, descriptorIndex := 26, attributes := #[] }, { accessFlags := 10, nameIndex := 29, descriptorIndex := 26, attributes := #[] }] 49 2 #[] #[])
  fields := #[]
  methods := #[k1m0, k1m1, k1m2, k1m3, k1m4, k1m5]
  instanceTypes := #[]
  staticTypes := #[]
  resolved := Array.replicate 50 none
  statics := none }

def pool2 : Array CpInfo := pool [(1, .class_ 2), (0, u "java/io/Serializable"), (0, .class_ 4), (0, u "java/lang/Object")] 2

/-- java/io/Serializable -/
def k2 : Class := { plain "java/io/Serializable" (some 0) with
  accessFlags := 1537
  interfaces := #[]
  cf := some (fileOf pool2 1 #[] #[] 1537 3 #[] #[])
  fields := #[]
  methods := #[]
  instanceTypes := #[]
  staticTypes := #[]
  resolved := Array.replicate 7 none
  statics := none }

def pool3 : Array CpInfo := pool [(1, .class_ 2), (0, u "java/lang/Comparable"), (0, .class_ 4), (0, u "java/lang/Object")] 7

/-- java/lang/Comparable -/
def k3 : Class := { plain "java/lang/Comparable" (some 0) with
  accessFlags := 1537
  interfaces := #[]
  cf := some (fileOf pool3 1 #[] #[] 1537 3 #[] #[])
  fields := #[]
  methods := #[]
  instanceTypes := #[]
  staticTypes := #[]
  resolved := Array.replicate 12 none
  statics := none }

def pool4 : Array CpInfo := pool [(2, .class_ 4), (1, u "java/lang/CharSequence"), (0, u "length"), (0, u "()I"), (38, u "charAt"), (0, u "(I)C"), (0, .class_ 48), (0, u "java/lang/CharSequence$1CodePointIterator"), (10, .class_ 60), (0, u "java/lang/CharSequence$1CharIterator"), (5, .class_ 67), (0, u "java/lang/Object")] 63

def k4m0 : Method := { name := "length", desc := "()I", sig := { parameters := [], returnType := some .int }, accessFlags := 1025, code := none }
def k4m1 : Method := { name := "charAt", desc := "(I)C", sig := { parameters := [.int], returnType := some .char }, accessFlags := 1025, code := none }
/-- java/lang/CharSequence -/
def k4 : Class := { plain "java/lang/CharSequence" (some 0) with
  accessFlags := 1537
  interfaces := #[]
  cf := some (fileOf pool4 2 #[.nestMembers #[47, 59]] #[{ accessFlags := 1025, nameIndex := 5, descriptorIndex := 6, attributes := #[] }, { accessFlags := 1025, nameIndex := 45, descriptorIndex := 46, attributes := #[] }] 1537 66 #[] #[])
  fields := #[]
  methods := #[k4m0, k4m1]
  instanceTypes := #[]
  staticTypes := #[]
  resolved := Array.replicate 131 none
  statics := none }

def pool5 : Array CpInfo := pool [(1, .class_ 2), (0, u "java/lang/constant/Constable"), (0, .class_ 4), (0, u "java/lang/Object")] 6

/-- java/lang/constant/Constable -/
def k5 : Class := { plain "java/lang/constant/Constable" (some 0) with
  accessFlags := 1537
  interfaces := #[]
  cf := some (fileOf pool5 1 #[] #[] 1537 3 #[] #[])
  fields := #[]
  methods := #[]
  instanceTypes := #[]
  staticTypes := #[]
  resolved := Array.replicate 11 none
  statics := none }

def pool6 : Array CpInfo := pool [(1, .class_ 2), (0, u "java/lang/constant/ConstantDesc"), (0, .class_ 4), (0, u "java/lang/Object")] 32

/-- java/lang/constant/ConstantDesc -/
def k6 : Class := { plain "java/lang/constant/ConstantDesc" (some 0) with
  accessFlags := 1537
  interfaces := #[]
  cf := some (fileOf pool6 1 #[] #[] 1537 3 #[] #[])
  fields := #[]
  methods := #[]
  instanceTypes := #[]
  staticTypes := #[]
  resolved := Array.replicate 37 none
  statics := none }

def pool7 : Array CpInfo := pool [(1, .methodref 2 3), (0, .class_ 4), (0, .nameAndType 5 6), (0, u "java/lang/Object"), (0, u "<init>"), (0, u "()V"), (2, .fieldref 10 11), (0, .class_ 12), (0, .nameAndType 13 14), (0, u "java/lang/String"), (0, u "value"), (0, u "[B"), (0, .fieldref 10 16), (0, .nameAndType 17 18), (0, u "coder"), (0, u "B"), (2, u "hash"), (0, u "I"), (2, u "hashIsZero"), (0, u "Z"), (0, .methodref 10 28), (0, .nameAndType 5 29), (0, u "([CIILjava/lang/Void;)V"), (8, .fieldref 10 39), (0, .nameAndType 40 26), (0, u "COMPACT_STRINGS"), (1, .class_ 44), (1, u "java/lang/StringUTF16"), (0, u "compress"), (1, .methodref 42 48), (0, .nameAndType 49 50), (0, u "coderFromArrayLen"), (0, u "([BI)B"), (56, .class_ 109), (1, u "java/lang/StringLatin1"), (32, u "()Z"), (34, .methodref 42 178), (0, .nameAndType 45 179), (0, u "([CII)[B"), (154, u "()I"), (0, .methodref 10 336), (0, .nameAndType 17 337), (0, u "()B"), (25, u "([BI)C"), (27, u "(II)V"), (35, u "(I)C"), (64, .methodref 10 493), (0, .nameAndType 494 142), (0, u "isLatin1"), (0, .methodref 107 496), (0, .nameAndType 497 363), (0, u "charAt"), (3, u "checkIndex"), (5, u "length"), (67, .class_ 576), (0, u "java/lang/CharSequence"), (22, u "CASE_INSENSITIVE_ORDER"), (0, u "Ljava/util/Comparator;"), (409, u "([C)V"), (42, .fieldref 1054 1055), (0, .class_ 1056), (0, .nameAndType 1057 1058), (0, u "jdk/internal/util/Preconditions"), (0, u "SIOOBE_FORMATTER"), (0, u "Ljava/util/function/BiFunction;"), (0, .methodref 1054 1060), (0, .nameAndType 501 1061), (0, u "(IILjava/util/function/BiFunction;)I"), (39, u "serialPersistentFields"), (0, u "[Ljava/io/ObjectStreamField;"), (0, .class_ 1104), (0, u "java/lang/String$CaseInsensitiveComparator"), (1, .class_ 1107), (0, u "java/io/Serializable"), (0, .class_ 1109), (0, u "java/lang/Comparable"), (0, .class_ 1111), (0, u "java/lang/constant/Constable"), (0, .class_ 1113), (0, u "java/lang/constant/ConstantDesc"), (2, u "serialVersionUID"), (0, u "J"), (3, u "REPL"), (0, u "C"), (2, u "LATIN1"), (1, u "UTF16")] 323

def k7m0 : Method := { name := "<init>", desc := "()V", sig := { parameters := [], returnType := none }, accessFlags := 1, code := none }
def k7c1 : Code := { maxStack := 5, maxLocals := 2, code := jdk_42_method_3_code, exceptionTable := #[], attributes := #[] }
def k7m1 : Method := { name := "<init>", desc := "([C)V", sig := { parameters := [(.array .char)], returnType := none }, accessFlags := 1, code := some k7c1 }
def k7c2 : Code := { maxStack := 2, maxLocals := 1, code := jdk_42_method_54_code, exceptionTable := #[], attributes := #[] }
def k7m2 : Method := { name := "length", desc := "()I", sig := { parameters := [], returnType := some .int }, accessFlags := 1, code := some k7c2 }
def k7c3 : Code := { maxStack := 2, maxLocals := 2, code := jdk_42_method_56_code, exceptionTable := #[], attributes := #[] }
def k7m3 : Method := { name := "charAt", desc := "(I)C", sig := { parameters := [.int], returnType := some .char }, accessFlags := 1, code := some k7c3 }
def k7c4 : Code := { maxStack := 4, maxLocals := 6, code := jdk_42_method_149_code, exceptionTable := #[], attributes := #[] }
def k7m4 : Method := { name := "<init>", desc := "([CIILjava/lang/Void;)V", sig := { parameters := [(.array .char), .int, .int, (.object "java/lang/Void")], returnType := none }, accessFlags := 2, code := some k7c4 }
def k7c5 : Code := { maxStack := 1, maxLocals := 1, code := jdk_42_method_152_code, exceptionTable := #[], attributes := #[] }
def k7m5 : Method := { name := "coder", desc := "()B", sig := { parameters := [], returnType := some .byte }, accessFlags := 0, code := some k7c5 }
def k7c6 : Code := { maxStack := 1, maxLocals := 1, code := jdk_42_method_154_code, exceptionTable := #[], attributes := #[] }
def k7m6 : Method := { name := "isLatin1", desc := "()Z", sig := { parameters := [], returnType := some .boolean }, accessFlags := 0, code := some k7c6 }
def k7c7 : Code := { maxStack := 3, maxLocals := 2, code := jdk_42_method_155_code, exceptionTable := #[], attributes := #[] }
def k7m7 : Method := { name := "checkIndex", desc := "(II)V", sig := { parameters := [.int, .int], returnType := none }, accessFlags := 8, code := some k7c7 }
/-- java/lang/String -/
def k7 : Class := { plain "java/lang/String" (some 0) with
  accessFlags := 49
  interfaces := #[2, 3, 4, 5, 6]
  cf := some (fileOf pool7 10 #[.nestMembers #[1103]] #[{ accessFlags := 1, nameIndex := 5, descriptorIndex := 6, attributes := #[] }, { accessFlags := 1, nameIndex := 5, descriptorIndex := 1010, attributes := #[] }, { accessFlags := 1, nameIndex := 507, descriptorIndex := 334, attributes := #[] }, { accessFlags := 1, nameIndex := 497, descriptorIndex := 427, attributes := #[] }, { accessFlags := 2, nameIndex := 5, descriptorIndex := 29, attributes := #[] }, { accessFlags := 0, nameIndex := 17, descriptorIndex := 337, attributes := #[] }, { accessFlags := 0, nameIndex := 494, descriptorIndex := 142, attributes := #[] }, { accessFlags := 8, nameIndex := 501, descriptorIndex := 391, attributes := #[] }] 49 2 #[1106, 1108, 575, 1110, 1112] #[{ accessFlags := 18, nameIndex := 13, descriptorIndex := 14, attributes := #[] }, { accessFlags := 18, nameIndex := 17, descriptorIndex := 18, attributes := #[] }, { accessFlags := 2, nameIndex := 21, descriptorIndex := 22, attributes := #[] }, { accessFlags := 2, nameIndex := 25, descriptorIndex := 26, attributes := #[] }, { accessFlags := 26, nameIndex := 1116, descriptorIndex := 1117, attributes := #[] }, { accessFlags := 24, nameIndex := 40, descriptorIndex := 26, attributes := #[] }, { accessFlags := 26, nameIndex := 1101, descriptorIndex := 1102, attributes := #[] }, { accessFlags := 26, nameIndex := 1121, descriptorIndex := 1122, attributes := #[] }, { accessFlags := 25, nameIndex := 599, descriptorIndex := 600, attributes := #[] }, { accessFlags := 24, nameIndex := 1125, descriptorIndex := 18, attributes := #[] }, { accessFlags := 24, nameIndex := 1127, descriptorIndex := 18, attributes := #[] }])
  fields := #[{ name := "value", type := (.array .byte), accessFlags := 18, slot := 0, constantValue := 0 }, { name := "coder", type := .byte, accessFlags := 18, slot := 1, constantValue := 0 }, { name := "hash", type := .int, accessFlags := 2, slot := 2, constantValue := 0 }, { name := "hashIsZero", type := .boolean, accessFlags := 2, slot := 3, constantValue := 0 }, { name := "serialVersionUID", type := .long, accessFlags := 26, slot := 0, constantValue := 0 }, { name := "COMPACT_STRINGS", type := .boolean, accessFlags := 24, slot := 1, constantValue := 0 }, { name := "serialPersistentFields", type := (.array (.object "java/io/ObjectStreamField")), accessFlags := 26, slot := 2, constantValue := 0 }, { name := "REPL", type := .char, accessFlags := 26, slot := 3, constantValue := 0 }, { name := "CASE_INSENSITIVE_ORDER", type := (.object "java/util/Comparator"), accessFlags := 25, slot := 4, constantValue := 0 }, { name := "LATIN1", type := .byte, accessFlags := 24, slot := 5, constantValue := 0 }, { name := "UTF16", type := .byte, accessFlags := 24, slot := 6, constantValue := 0 }]
  methods := #[k7m0, k7m1, k7m2, k7m3, k7m4, k7m5, k7m6, k7m7]
  instanceTypes := #[(.array .byte), .byte, .int, .boolean]
  staticTypes := #[.long, .boolean, (.array (.object "java/io/ObjectStreamField")), .char, (.object "java/util/Comparator"), .byte, .byte]
  resolved := Array.replicate 1451 none
  statics := some 0 }

def pool8 : Array CpInfo := pool [(6, .class_ 8), (1, u "java/lang/Object"), (0, u "<init>"), (0, u "()V"), (1, .class_ 14), (1, u "java/lang/StringUTF16"), (31, u "$assertionsDisabled"), (0, u "Z"), (13, u "HI_BYTE_SHIFT"), (0, u "I"), (2, u "LO_BYTE_SHIFT"), (49, .methodref 12 116), (0, .nameAndType 117 118), (0, u "compress"), (0, u "([CI[BII)I"), (3, u "([CII)[B"), (138, u "coderFromArrayLen"), (0, u "([BI)B"), (106, .class_ 371), (1, u "java/lang/StringUTF16$LinesSpliterator"), (58, u "MAX_LENGTH"), (196, .class_ 628), (0, u "java/lang/StringUTF16$CodePointsSpliterator"), (0, .class_ 630), (0, u "java/lang/StringUTF16$CharsSpliterator")] 4

def k8m0 : Method := { name := "<init>", desc := "()V", sig := { parameters := [], returnType := none }, accessFlags := 0, code := none }
def k8c1 : Code := { maxStack := 2, maxLocals := 2, code := jdk_52_method_15_code, exceptionTable := #[], attributes := #[] }
def k8m1 : Method := { name := "coderFromArrayLen", desc := "([BI)B", sig := { parameters := [(.array .byte), .int], returnType := some .byte }, accessFlags := 8, code := some k8c1 }
def k8c2 : Code := { maxStack := 5, maxLocals := 6, code := jdk_52_method_16_code, exceptionTable := #[], attributes := #[] }
def k8m2 : Method := { name := "compress", desc := "([CII)[B", sig := { parameters := [(.array .char), .int, .int], returnType := some (.array .byte) }, accessFlags := 9, code := some k8c2 }
def k8c3 : Code := { maxStack := 3, maxLocals := 7, code := jdk_52_method_21_code, exceptionTable := #[], attributes := #[] }
def k8m3 : Method := { name := "compress", desc := "([CI[BII)I", sig := { parameters := [(.array .char), .int, (.array .byte), .int, .int], returnType := some .int }, accessFlags := 9, code := some k8c3 }
/-- java/lang/StringUTF16 -/
def k8 : Class := { plain "java/lang/StringUTF16" (some 0) with
  accessFlags := 48
  interfaces := #[]
  cf := some (fileOf pool8 12 #[.nestMembers #[627, 629, 369]] #[{ accessFlags := 0, nameIndex := 9, descriptorIndex := 10, attributes := #[] }, { accessFlags := 8, nameIndex := 261, descriptorIndex := 262, attributes := #[] }, { accessFlags := 9, nameIndex := 117, descriptorIndex := 122, attributes := #[] }, { accessFlags := 9, nameIndex := 117, descriptorIndex := 118, attributes := #[] }] 48 6 #[] #[{ accessFlags := 26, nameIndex := 61, descriptorIndex := 62, attributes := #[] }, { accessFlags := 26, nameIndex := 65, descriptorIndex := 62, attributes := #[] }, { accessFlags := 24, nameIndex := 430, descriptorIndex := 62, attributes := #[] }, { accessFlags := 4120, nameIndex := 46, descriptorIndex := 47, attributes := #[] }])
  fields := #[{ name := "HI_BYTE_SHIFT", type := .int, accessFlags := 26, slot := 0, constantValue := 0 }, { name := "LO_BYTE_SHIFT", type := .int, accessFlags := 26, slot := 1, constantValue := 0 }, { name := "MAX_LENGTH", type := .int, accessFlags := 24, slot := 2, constantValue := 0 }, { name := "$assertionsDisabled", type := .boolean, accessFlags := 4120, slot := 3, constantValue := 0 }]
  methods := #[k8m0, k8m1, k8m2, k8m3]
  instanceTypes := #[]
  staticTypes := #[.int, .int, .int, .boolean]
  resolved := Array.replicate 635 none
  statics := none }

def pool9 : Array CpInfo := pool [(2, .class_ 4), (1, u "java/lang/Object"), (0, u "<init>"), (0, u "()V"), (0, .methodref 8 9), (0, .class_ 10), (0, .nameAndType 11 12), (0, u "com/example/crisp_typedef/crisptypedef/NumberText"), (0, u "parse"), (0, u "(Ljava/lang/CharSequence;)Lcom/example/crisp_typedef/crisptypedef/NumberText$Parts;"), (0, .interfaceMethodref 14 15), (0, .class_ 16), (0, .nameAndType 17 18), (0, u "java/lang/CharSequence"), (0, u "length"), (0, u "()I"), (0, .interfaceMethodref 14 20), (0, .nameAndType 21 22), (0, u "charAt"), (0, u "(I)C"), (0, .methodref 8 24), (0, .nameAndType 25 26), (0, u "digitsEnd"), (0, u "(Ljava/lang/CharSequence;I)I"), (6, u "significand"), (0, u "(Ljava/lang/CharSequence;)Lcom/example/crisp_typedef/crisptypedef/NumberText$Significand;"), (1, .class_ 38), (1, u "com/example/crisp_typedef/crisptypedef/NumberText$Significand"), (1, u "()Z"), (3, u "()J"), (7, .nameAndType 53 18), (0, u "point"), (4, .long 10), (4, .nameAndType 64 40), (0, u "negative"), (0, .long 48), (1, .methodref 68 69), (0, .class_ 70), (0, .nameAndType 71 18), (0, u "com/example/crisp_typedef/crisptypedef/NumberText$Parts"), (0, u "start"), (0, .methodref 68 73), (0, .nameAndType 74 18), (0, u "end"), (0, .methodref 8 76), (0, .nameAndType 77 78), (0, u "isZeroOrPoint"), (0, u "(C)Z"), (0, .methodref 68 52), (0, .methodref 68 63), (0, .methodref 68 82), (0, .nameAndType 83 44), (0, u "exponent"), (0, .methodref 36 85), (0, .nameAndType 5 86), (0, u "(ZIIIJ)V"), (0, .methodref 8 88), (0, .nameAndType 83 89), (0, u "(Ljava/lang/CharSequence;II)J"), (0, .methodref 68 85), (0, .long 1099511627776), (1, u "MAX_EXPONENT"), (0, u "J"), (1, u "PLAIN_DIGITS"), (0, u "I")] 14

def k9m0 : Method := { name := "<init>", desc := "()V", sig := { parameters := [], returnType := none }, accessFlags := 2, code := none }
def k9c1 : Code := { maxStack := 10, maxLocals := 7, code := prog_20_method_5_code, exceptionTable := #[], attributes := #[] }
def k9m1 : Method := { name := "significand", desc := "(Ljava/lang/CharSequence;)Lcom/example/crisp_typedef/crisptypedef/NumberText$Significand;", sig := { parameters := [(.object "java/lang/CharSequence")], returnType := some (.object "com/example/crisp_typedef/crisptypedef/NumberText$Significand") }, accessFlags := 8, code := some k9c1 }
def k9c2 : Code := { maxStack := 8, maxLocals := 11, code := prog_20_method_6_code, exceptionTable := #[], attributes := #[] }
def k9m2 : Method := { name := "parse", desc := "(Ljava/lang/CharSequence;)Lcom/example/crisp_typedef/crisptypedef/NumberText$Parts;", sig := { parameters := [(.object "java/lang/CharSequence")], returnType := some (.object "com/example/crisp_typedef/crisptypedef/NumberText$Parts") }, accessFlags := 10, code := some k9c2 }
def k9c3 : Code := { maxStack := 2, maxLocals := 3, code := prog_20_method_7_code, exceptionTable := #[], attributes := #[] }
def k9m3 : Method := { name := "digitsEnd", desc := "(Ljava/lang/CharSequence;I)I", sig := { parameters := [(.object "java/lang/CharSequence"), .int], returnType := some .int }, accessFlags := 10, code := some k9c3 }
def k9c4 : Code := { maxStack := 4, maxLocals := 6, code := prog_20_method_8_code, exceptionTable := #[], attributes := #[] }
def k9m4 : Method := { name := "exponent", desc := "(Ljava/lang/CharSequence;II)J", sig := { parameters := [(.object "java/lang/CharSequence"), .int, .int], returnType := some .long }, accessFlags := 10, code := some k9c4 }
def k9c5 : Code := { maxStack := 2, maxLocals := 1, code := prog_20_method_9_code, exceptionTable := #[], attributes := #[] }
def k9m5 : Method := { name := "isZeroOrPoint", desc := "(C)Z", sig := { parameters := [.char], returnType := some .boolean }, accessFlags := 10, code := some k9c5 }
/-- com/example/crisp_typedef/crisptypedef/NumberText -/
def k9 : Class := { plain "com/example/crisp_typedef/crisptypedef/NumberText" (some 0) with
  accessFlags := 33
  interfaces := #[]
  cf := some (fileOf pool9 8 #[.nestMembers #[36, 68]] #[{ accessFlags := 2, nameIndex := 5, descriptorIndex := 6, attributes := #[] }, { accessFlags := 8, nameIndex := 33, descriptorIndex := 34, attributes := #[] }, { accessFlags := 10, nameIndex := 11, descriptorIndex := 12, attributes := #[] }, { accessFlags := 10, nameIndex := 25, descriptorIndex := 26, attributes := #[] }, { accessFlags := 10, nameIndex := 83, descriptorIndex := 89, attributes := #[] }, { accessFlags := 10, nameIndex := 77, descriptorIndex := 78, attributes := #[] }] 33 2 #[] #[{ accessFlags := 26, nameIndex := 93, descriptorIndex := 94, attributes := #[] }, { accessFlags := 26, nameIndex := 96, descriptorIndex := 97, attributes := #[] }])
  fields := #[{ name := "MAX_EXPONENT", type := .long, accessFlags := 26, slot := 0, constantValue := 0 }, { name := "PLAIN_DIGITS", type := .int, accessFlags := 26, slot := 1, constantValue := 0 }]
  methods := #[k9m0, k9m1, k9m2, k9m3, k9m4, k9m5]
  instanceTypes := #[]
  staticTypes := #[.long, .int]
  resolved := ((Array.replicate 112 none).setIfInBounds 68 (some (.cls 13))).setIfInBounds 90 (some (.method ⟨13, 0⟩))
  statics := none }

def pool10 : Array CpInfo := pool [(1, .class_ 2), (0, u "java/lang/String"), (1, .class_ 6), (1, u "java/lang/Object"), (0, u "<init>"), (0, u "()V"), (0, .methodref 1 10), (0, .nameAndType 11 12), (0, u "checkIndex"), (0, u "(II)V"), (1, .class_ 16), (1, u "java/lang/StringLatin1"), (36, u "([BI)C"), (67, u "$assertionsDisabled"), (0, u "Z"), (98, .class_ 223), (1, u "java/lang/StringLatin1$LinesSpliterator"), (28, u "charAt"), (137, .class_ 391), (0, u "java/lang/StringLatin1$CharsSpliterator")] 3

def k10m0 : Method := { name := "<init>", desc := "()V", sig := { parameters := [], returnType := none }, accessFlags := 0, code := none }
def k10c1 : Code := { maxStack := 2, maxLocals := 2, code := jdk_43_method_2_code, exceptionTable := #[], attributes := #[] }
def k10m1 : Method := { name := "charAt", desc := "([BI)C", sig := { parameters := [(.array .byte), .int], returnType := some .char }, accessFlags := 9, code := some k10c1 }
/-- java/lang/StringLatin1 -/
def k10 : Class := { plain "java/lang/StringLatin1" (some 0) with
  accessFlags := 48
  interfaces := #[]
  cf := some (fileOf pool10 14 #[.nestMembers #[390, 221]] #[{ accessFlags := 0, nameIndex := 7, descriptorIndex := 8, attributes := #[] }, { accessFlags := 9, nameIndex := 252, descriptorIndex := 53, attributes := #[] }] 48 4 #[] #[{ accessFlags := 4120, nameIndex := 121, descriptorIndex := 122, attributes := #[] }])
  fields := #[{ name := "$assertionsDisabled", type := .boolean, accessFlags := 4120, slot := 0, constantValue := 0 }]
  methods := #[k10m0, k10m1]
  instanceTypes := #[]
  staticTypes := #[.boolean]
  resolved := Array.replicate 395 none
  statics := none }

def pool11 : Array CpInfo := pool [(2, .class_ 4), (1, u "java/lang/Object"), (0, u "<init>"), (0, u "()V"), (17, .class_ 26), (1, u "jdk/internal/util/Preconditions"), (6, u "checkIndex"), (21, .class_ 56), (0, u "jdk/internal/util/Preconditions$4"), (57, .class_ 115), (0, u "jdk/internal/util/Preconditions$1"), (7, u "SIOOBE_FORMATTER"), (0, u "Ljava/util/function/BiFunction;"), (0, .class_ 126), (0, u "jdk/internal/util/Preconditions$2"), (3, u "AIOOBE_FORMATTER"), (0, .class_ 132), (0, u "jdk/internal/util/Preconditions$3"), (3, u "IOOBE_FORMATTER"), (41, u "(IILjava/util/function/BiFunction;)I")] 15

def k11m0 : Method := { name := "<init>", desc := "()V", sig := { parameters := [], returnType := none }, accessFlags := 1, code := none }
def k11c1 : Code := { maxStack := 3, maxLocals := 3, code := jdk_41_method_11_code, exceptionTable := #[], attributes := #[] }
def k11m1 : Method := { name := "checkIndex", desc := "(IILjava/util/function/BiFunction;)I", sig := { parameters := [.int, .int, (.object "java/util/function/BiFunction")], returnType := some .int }, accessFlags := 9, code := some k11c1 }
/-- jdk/internal/util/Preconditions -/
def k11 : Class := { plain "jdk/internal/util/Preconditions" (some 0) with
  accessFlags := 33
  interfaces := #[]
  cf := some (fileOf pool11 24 #[.nestMembers #[55, 131, 125, 114]] #[{ accessFlags := 1, nameIndex := 5, descriptorIndex := 6, attributes := #[] }, { accessFlags := 9, nameIndex := 33, descriptorIndex := 178, attributes := #[] }] 33 2 #[] #[{ accessFlags := 25, nameIndex := 123, descriptorIndex := 124, attributes := #[] }, { accessFlags := 25, nameIndex := 130, descriptorIndex := 124, attributes := #[] }, { accessFlags := 25, nameIndex := 136, descriptorIndex := 124, attributes := #[] }])
  fields := #[{ name := "SIOOBE_FORMATTER", type := (.object "java/util/function/BiFunction"), accessFlags := 25, slot := 0, constantValue := 0 }, { name := "AIOOBE_FORMATTER", type := (.object "java/util/function/BiFunction"), accessFlags := 25, slot := 1, constantValue := 0 }, { name := "IOOBE_FORMATTER", type := (.object "java/util/function/BiFunction"), accessFlags := 25, slot := 2, constantValue := 0 }]
  methods := #[k11m0, k11m1]
  instanceTypes := #[]
  staticTypes := #[(.object "java/util/function/BiFunction"), (.object "java/util/function/BiFunction"), (.object "java/util/function/BiFunction")]
  resolved := Array.replicate 194 none
  statics := some 1 }

def pool12 : Array CpInfo := pool [(1, .methodref 2 3), (0, .class_ 4), (0, .nameAndType 5 6), (0, u "java/lang/Object"), (0, u "<init>"), (0, u "()V"), (0, .class_ 8), (0, u "java/lang/Record")] 13

def k12c0 : Code := { maxStack := 1, maxLocals := 1, code := jdk_30_method_1_code, exceptionTable := #[], attributes := #[] }
def k12m0 : Method := { name := "<init>", desc := "()V", sig := { parameters := [], returnType := none }, accessFlags := 4, code := some k12c0 }
/-- java/lang/Record -/
def k12 : Class := { plain "java/lang/Record" (some 0) with
  accessFlags := 1057
  interfaces := #[]
  cf := some (fileOf pool12 7 #[] #[{ accessFlags := 4, nameIndex := 5, descriptorIndex := 6, attributes := #[] }] 1057 2 #[] #[])
  fields := #[]
  methods := #[k12m0]
  instanceTypes := #[]
  staticTypes := #[]
  resolved := Array.replicate 22 none
  statics := none }

def pool13 : Array CpInfo := pool [(1, .methodref 2 3), (0, .class_ 4), (0, .nameAndType 5 6), (0, u "java/lang/Record"), (0, u "<init>"), (0, u "()V"), (0, .fieldref 8 9), (0, .class_ 10), (0, .nameAndType 11 12), (0, u "com/example/crisp_typedef/crisptypedef/NumberText$Parts"), (0, u "negative"), (0, u "Z"), (0, .fieldref 8 14), (0, .nameAndType 15 16), (0, u "start"), (0, u "I"), (0, .fieldref 8 18), (0, .nameAndType 19 16), (0, u "point"), (0, .fieldref 8 21), (0, .nameAndType 22 16), (0, u "end"), (0, .fieldref 8 24), (0, .nameAndType 25 26), (0, u "exponent"), (0, u "J"), (12, u "(ZIIIJ)V"), (4, u "()I"), (1, u "()Z"), (0, u "()J"), (3, .class_ 52), (0, u "com/example/crisp_typedef/crisptypedef/NumberText")] 23

def k13c0 : Code := { maxStack := 3, maxLocals := 7, code := prog_21_method_1_code, exceptionTable := #[], attributes := #[] }
def k13m0 : Method := { name := "<init>", desc := "(ZIIIJ)V", sig := { parameters := [.boolean, .int, .int, .int, .long], returnType := none }, accessFlags := 2, code := some k13c0 }
def k13c1 : Code := { maxStack := 1, maxLocals := 1, code := prog_21_method_5_code, exceptionTable := #[], attributes := #[] }
def k13m1 : Method := { name := "negative", desc := "()Z", sig := { parameters := [], returnType := some .boolean }, accessFlags := 1, code := some k13c1 }
def k13c2 : Code := { maxStack := 1, maxLocals := 1, code := prog_21_method_6_code, exceptionTable := #[], attributes := #[] }
def k13m2 : Method := { name := "start", desc := "()I", sig := { parameters := [], returnType := some .int }, accessFlags := 1, code := some k13c2 }
def k13c3 : Code := { maxStack := 1, maxLocals := 1, code := prog_21_method_7_code, exceptionTable := #[], attributes := #[] }
def k13m3 : Method := { name := "point", desc := "()I", sig := { parameters := [], returnType := some .int }, accessFlags := 1, code := some k13c3 }
def k13c4 : Code := { maxStack := 1, maxLocals := 1, code := prog_21_method_8_code, exceptionTable := #[], attributes := #[] }
def k13m4 : Method := { name := "end", desc := "()I", sig := { parameters := [], returnType := some .int }, accessFlags := 1, code := some k13c4 }
def k13c5 : Code := { maxStack := 2, maxLocals := 1, code := prog_21_method_9_code, exceptionTable := #[], attributes := #[] }
def k13m5 : Method := { name := "exponent", desc := "()J", sig := { parameters := [], returnType := some .long }, accessFlags := 1, code := some k13c5 }
/-- com/example/crisp_typedef/crisptypedef/NumberText$Parts -/
def k13 : Class := { plain "com/example/crisp_typedef/crisptypedef/NumberText$Parts" (some 12) with
  accessFlags := 48
  interfaces := #[]
  cf := some (fileOf pool13 8 #[.nestHost 51] #[{ accessFlags := 2, nameIndex := 5, descriptorIndex := 39, attributes := #[] }, { accessFlags := 1, nameIndex := 11, descriptorIndex := 46, attributes := #[] }, { accessFlags := 1, nameIndex := 15, descriptorIndex := 44, attributes := #[] }, { accessFlags := 1, nameIndex := 19, descriptorIndex := 44, attributes := #[] }, { accessFlags := 1, nameIndex := 22, descriptorIndex := 44, attributes := #[] }, { accessFlags := 1, nameIndex := 25, descriptorIndex := 47, attributes := #[] }] 48 2 #[] #[{ accessFlags := 18, nameIndex := 11, descriptorIndex := 12, attributes := #[] }, { accessFlags := 18, nameIndex := 15, descriptorIndex := 16, attributes := #[] }, { accessFlags := 18, nameIndex := 19, descriptorIndex := 16, attributes := #[] }, { accessFlags := 18, nameIndex := 22, descriptorIndex := 16, attributes := #[] }, { accessFlags := 18, nameIndex := 25, descriptorIndex := 26, attributes := #[] }])
  fields := #[{ name := "negative", type := .boolean, accessFlags := 18, slot := 0, constantValue := 0 }, { name := "start", type := .int, accessFlags := 18, slot := 1, constantValue := 0 }, { name := "point", type := .int, accessFlags := 18, slot := 2, constantValue := 0 }, { name := "end", type := .int, accessFlags := 18, slot := 3, constantValue := 0 }, { name := "exponent", type := .long, accessFlags := 18, slot := 4, constantValue := 0 }]
  methods := #[k13m0, k13m1, k13m2, k13m3, k13m4, k13m5]
  instanceTypes := #[.boolean, .int, .int, .int, .long]
  staticTypes := #[]
  resolved := Array.replicate 76 none
  statics := none }

def pool14 : Array CpInfo := pool [(1, .methodref 2 3), (0, .class_ 4), (0, .nameAndType 5 6), (0, u "java/lang/Record"), (0, u "<init>"), (0, u "()V"), (0, .fieldref 8 9), (0, .class_ 10), (0, .nameAndType 11 12), (0, u "com/example/crisp_typedef/crisptypedef/NumberText$Significand"), (0, u "negative"), (0, u "Z"), (0, .fieldref 8 14), (0, .nameAndType 15 16), (0, u "first"), (0, u "I"), (0, .fieldref 8 18), (0, .nameAndType 19 16), (0, u "last"), (0, .fieldref 8 21), (0, .nameAndType 22 16), (0, u "point"), (0, .fieldref 8 24), (0, .nameAndType 25 26), (0, u "power"), (0, u "J"), (34, u "(ZIIIJ)V"), (3, u "isZero"), (0, u "()Z"), (12, .class_ 80), (0, u "com/example/crisp_typedef/crisptypedef/NumberText")] 23

def k14c0 : Code := { maxStack := 3, maxLocals := 7, code := prog_22_method_1_code, exceptionTable := #[], attributes := #[] }
def k14m0 : Method := { name := "<init>", desc := "(ZIIIJ)V", sig := { parameters := [.boolean, .int, .int, .int, .long], returnType := none }, accessFlags := 0, code := some k14c0 }
def k14c1 : Code := { maxStack := 2, maxLocals := 1, code := prog_22_method_2_code, exceptionTable := #[], attributes := #[] }
def k14m1 : Method := { name := "isZero", desc := "()Z", sig := { parameters := [], returnType := some .boolean }, accessFlags := 0, code := some k14c1 }
/-- com/example/crisp_typedef/crisptypedef/NumberText$Significand -/
def k14 : Class := { plain "com/example/crisp_typedef/crisptypedef/NumberText$Significand" (some 12) with
  accessFlags := 48
  interfaces := #[]
  cf := some (fileOf pool14 8 #[.nestHost 79] #[{ accessFlags := 0, nameIndex := 5, descriptorIndex := 61, attributes := #[] }, { accessFlags := 0, nameIndex := 65, descriptorIndex := 66, attributes := #[] }] 48 2 #[] #[{ accessFlags := 18, nameIndex := 11, descriptorIndex := 12, attributes := #[] }, { accessFlags := 18, nameIndex := 15, descriptorIndex := 16, attributes := #[] }, { accessFlags := 18, nameIndex := 19, descriptorIndex := 16, attributes := #[] }, { accessFlags := 18, nameIndex := 22, descriptorIndex := 16, attributes := #[] }, { accessFlags := 18, nameIndex := 25, descriptorIndex := 26, attributes := #[] }])
  fields := #[{ name := "negative", type := .boolean, accessFlags := 18, slot := 0, constantValue := 0 }, { name := "first", type := .int, accessFlags := 18, slot := 1, constantValue := 0 }, { name := "last", type := .int, accessFlags := 18, slot := 2, constantValue := 0 }, { name := "point", type := .int, accessFlags := 18, slot := 3, constantValue := 0 }, { name := "power", type := .long, accessFlags := 18, slot := 4, constantValue := 0 }]
  methods := #[k14m0, k14m1]
  instanceTypes := #[.boolean, .int, .int, .int, .long]
  staticTypes := #[]
  resolved := Array.replicate 104 none
  statics := none }

def pool15 : Array CpInfo := pool [(9, u "<init>"), (6, .class_ 18), (1, u "java/lang/Object"), (0, u "()V"), (1, .class_ 23), (1, u "jdk/internal/util/ArraysSupport"), (0, u "LOG2_ARRAY_LONG_INDEX_SCALE"), (0, u "I"), (2, u "U"), (0, u "Ljdk/internal/misc/Unsafe;"), (8, u "BIG_ENDIAN"), (0, u "Z"), (8, u "LOG2_BYTE_BIT_SIZE"), (4, u "LOG2_ARRAY_INT_INDEX_SCALE"), (54, u "JLA"), (0, u "Ljdk/internal/access/JavaLangAccess;"), (11, u "LOG2_ARRAY_BOOLEAN_INDEX_SCALE"), (9, u "LOG2_ARRAY_BYTE_INDEX_SCALE"), (5, u "LOG2_ARRAY_CHAR_INDEX_SCALE"), (5, u "LOG2_ARRAY_SHORT_INDEX_SCALE"), (18, u "LOG2_ARRAY_FLOAT_INDEX_SCALE"), (24, u "LOG2_ARRAY_DOUBLE_INDEX_SCALE"), (89, u "T_BOOLEAN"), (2, u "T_CHAR"), (1, u "T_FLOAT"), (1, u "T_DOUBLE"), (1, u "T_BYTE"), (1, u "T_SHORT"), (1, u "T_INT"), (1, u "T_LONG"), (1, u "SOFT_MAX_ARRAY_LENGTH")] 83

def k15m0 : Method := { name := "<init>", desc := "()V", sig := { parameters := [], returnType := none }, accessFlags := 2, code := none }
/-- jdk/internal/util/ArraysSupport -/
def k15 : Class := { plain "jdk/internal/util/ArraysSupport" (some 0) with
  accessFlags := 33
  interfaces := #[]
  cf := some (fileOf pool15 21 #[] #[{ accessFlags := 2, nameIndex := 9, descriptorIndex := 19, attributes := #[] }] 33 16 #[] #[{ accessFlags := 24, nameIndex := 28, descriptorIndex := 29, attributes := #[] }, { accessFlags := 26, nameIndex := 38, descriptorIndex := 39, attributes := #[] }, { accessFlags := 25, nameIndex := 121, descriptorIndex := 25, attributes := #[] }, { accessFlags := 25, nameIndex := 131, descriptorIndex := 25, attributes := #[] }, { accessFlags := 25, nameIndex := 137, descriptorIndex := 25, attributes := #[] }, { accessFlags := 25, nameIndex := 143, descriptorIndex := 25, attributes := #[] }, { accessFlags := 25, nameIndex := 53, descriptorIndex := 25, attributes := #[] }, { accessFlags := 25, nameIndex := 24, descriptorIndex := 25, attributes := #[] }, { accessFlags := 25, nameIndex := 162, descriptorIndex := 25, attributes := #[] }, { accessFlags := 25, nameIndex := 187, descriptorIndex := 25, attributes := #[] }, { accessFlags := 26, nameIndex := 48, descriptorIndex := 25, attributes := #[] }, { accessFlags := 25, nameIndex := 277, descriptorIndex := 25, attributes := #[] }, { accessFlags := 25, nameIndex := 280, descriptorIndex := 25, attributes := #[] }, { accessFlags := 25, nameIndex := 282, descriptorIndex := 25, attributes := #[] }, { accessFlags := 25, nameIndex := 284, descriptorIndex := 25, attributes := #[] }, { accessFlags := 25, nameIndex := 286, descriptorIndex := 25, attributes := #[] }, { accessFlags := 25, nameIndex := 288, descriptorIndex := 25, attributes := #[] }, { accessFlags := 25, nameIndex := 290, descriptorIndex := 25, attributes := #[] }, { accessFlags := 25, nameIndex := 292, descriptorIndex := 25, attributes := #[] }, { accessFlags := 26, nameIndex := 108, descriptorIndex := 109, attributes := #[] }, { accessFlags := 25, nameIndex := 294, descriptorIndex := 25, attributes := #[] }])
  fields := #[{ name := "U", type := (.object "jdk/internal/misc/Unsafe"), accessFlags := 24, slot := 0, constantValue := 0 }, { name := "BIG_ENDIAN", type := .boolean, accessFlags := 26, slot := 1, constantValue := 0 }, { name := "LOG2_ARRAY_BOOLEAN_INDEX_SCALE", type := .int, accessFlags := 25, slot := 2, constantValue := 0 }, { name := "LOG2_ARRAY_BYTE_INDEX_SCALE", type := .int, accessFlags := 25, slot := 3, constantValue := 0 }, { name := "LOG2_ARRAY_CHAR_INDEX_SCALE", type := .int, accessFlags := 25, slot := 4, constantValue := 0 }, { name := "LOG2_ARRAY_SHORT_INDEX_SCALE", type := .int, accessFlags := 25, slot := 5, constantValue := 0 }, { name := "LOG2_ARRAY_INT_INDEX_SCALE", type := .int, accessFlags := 25, slot := 6, constantValue := 0 }, { name := "LOG2_ARRAY_LONG_INDEX_SCALE", type := .int, accessFlags := 25, slot := 7, constantValue := 0 }, { name := "LOG2_ARRAY_FLOAT_INDEX_SCALE", type := .int, accessFlags := 25, slot := 8, constantValue := 0 }, { name := "LOG2_ARRAY_DOUBLE_INDEX_SCALE", type := .int, accessFlags := 25, slot := 9, constantValue := 0 }, { name := "LOG2_BYTE_BIT_SIZE", type := .int, accessFlags := 26, slot := 10, constantValue := 0 }, { name := "T_BOOLEAN", type := .int, accessFlags := 25, slot := 11, constantValue := 0 }, { name := "T_CHAR", type := .int, accessFlags := 25, slot := 12, constantValue := 0 }, { name := "T_FLOAT", type := .int, accessFlags := 25, slot := 13, constantValue := 0 }, { name := "T_DOUBLE", type := .int, accessFlags := 25, slot := 14, constantValue := 0 }, { name := "T_BYTE", type := .int, accessFlags := 25, slot := 15, constantValue := 0 }, { name := "T_SHORT", type := .int, accessFlags := 25, slot := 16, constantValue := 0 }, { name := "T_INT", type := .int, accessFlags := 25, slot := 17, constantValue := 0 }, { name := "T_LONG", type := .int, accessFlags := 25, slot := 18, constantValue := 0 }, { name := "JLA", type := (.object "jdk/internal/access/JavaLangAccess"), accessFlags := 26, slot := 19, constantValue := 0 }, { name := "SOFT_MAX_ARRAY_LENGTH", type := .int, accessFlags := 25, slot := 20, constantValue := 0 }]
  methods := #[k15m0]
  instanceTypes := #[]
  staticTypes := #[(.object "jdk/internal/misc/Unsafe"), .boolean, .int, .int, .int, .int, .int, .int, .int, .int, .int, .int, .int, .int, .int, .int, .int, .int, .int, (.object "jdk/internal/access/JavaLangAccess"), .int]
  resolved := Array.replicate 378 none
  statics := none }

def pool16 : Array CpInfo := pool [(1, u "java/lang/Cloneable"), (0, .class_ 1), (0, u "java/lang/Object"), (0, .class_ 3)] 3

/-- java/lang/Cloneable -/
def k16 : Class := { plain "java/lang/Cloneable" (some 0) with
  accessFlags := 1537
  interfaces := #[]
  cf := some (fileOf pool16 2 #[] #[] 1537 4 #[] #[])
  fields := #[]
  methods := #[]
  instanceTypes := #[]
  staticTypes := #[]
  resolved := Array.replicate 8 none
  statics := none }

/-- the primitive byte -/
def k17 : Class := { plain "byte" none with kind := .primitive 'B', accessFlags := 0x411 }
/-- [B -/
def k18 : Class := { plain "[B" (some 0) with kind := .array 17 .byte, interfaces := #[16, 2], accessFlags := 1041 }

/-- the primitive char -/
def k19 : Class := { plain "char" none with kind := .primitive 'C', accessFlags := 0x411 }
/-- [C -/
def k20 : Class := { plain "[C" (some 0) with kind := .array 19 .char, interfaces := #[16, 2], accessFlags := 1041 }

/-- the primitive int -/
def k21 : Class := { plain "int" none with kind := .primitive 'I', accessFlags := 0x411 }
/-- [I -/
def k22 : Class := { plain "[I" (some 0) with kind := .array 21 .int, interfaces := #[16, 2], accessFlags := 1041 }

def heap : Heap := #[{ cls := 7, slots := #[.long 0, .int 1, .null, .int 0, .null, .int 0, .int 0], vm := .statics 7 },
  { cls := 11, slots := #[.null, .null, .null], vm := .statics 11 }]
def classes : Array Class := #[k0, k1, k2, k3, k4, k5, k6, k7, k8, k9, k10, k11, k12, k13, k14, k15, k16, k17, k18, k19, k20, k21, k22]
def interned : List (Array UInt16 × Addr) := []
def slotsUsed : Nat := 10
def theMethod : MethodId := ⟨1, 1⟩
def args0 : Array Value := #[.int 5, .int 7, .int 3, .int 9, .int 4, .int 1]
def aboutOver (below : List Frame) : State where
  vm := { classes := classes, interned := interned.toArray }
  heap := heap
  slotsUsed := slotsUsed
  threads := #[{ frames := .invoking theMethod args0 :: below }]
def below0 : List Frame := [.native { method := ⟨0, 0⟩, args := #[] }]
def about1 : State := aboutOver below0
def p0 : Program := .bare "" "" ""
def e0 : Env := launch0.env 0 0 0
theorem w_frames : about1.frames = Frame.invoking theMethod args0 :: below0 := rfl
set_option maxRecDepth 65536 in
theorem w_args : argsFit about1.vm theMethod args0 = true := by decide +kernel
set_option maxRecDepth 65536 in
theorem w_heap : heapFits about1 = true := by decide +kernel
set_option maxRecDepth 65536 in
theorem w_runnable : about1.curStatus? = some .runnable := by decide +kernel
set_option maxRecDepth 65536 in
theorem w_alone : about1.alone = true := by decide +kernel
set_option maxRecDepth 65536 in
theorem w_named : about1.methodNamed? x = some theMethod := by decide +kernel
set_option maxRecDepth 65536 in
theorem w_hears : about1.hears theMethod below0 = true := by decide +kernel
set_option maxRecDepth 65536 in
theorem w_ripe : about1.ripe theMethod args0 below0 = true := by decide +kernel
theorem w_running : about1.status = .running := rfl
set_option maxRecDepth 65536 in
theorem w_room : about1.hasRoom e0.platform room_1 = true :=
  launch0.hasRoom_least _ room_1 (by decide +kernel) (by decide +kernel) (by decide +kernel) (by decide +kernel) (by decide +kernel) (by decide +kernel)
theorem allAtoms_all (ts : List Jvm.Cond) (a : Array Jvm.Value) (st : Jvm.State) : (allAtoms ts).before a st = ts.all (fun c => c.before a st) := by
  induction ts with
  | nil => rfl
  | cons c t ih =>
    show (Jvm.Cond.and c (allAtoms t)).before a st = _
    rw [Jvm.Cond.before_and, ih, List.all_cons]
def words1 : List Jvm.Cond := Jvm.Cond.code x code maxLocals ret :: tables_1
/-- a 'code' word, met by the world's own term for the bytes: nothing is compared byte by byte -/
theorem code_word {y : MethodName} {bytes : ByteArray} {mx : Nat} {rt : Option FieldType} {a : Array Value} {s : State} {m : MethodId} {meth : Method} {c : Code} (h1 : s.methodNamed? y = some m) (h2 : s.vm.method? m = some meth) (h3 : meth.code = some c) (h4 : c.code = bytes)
    (h5 : (c.maxLocals == mx && c.exceptionTable.isEmpty && decide (c.maxStack ≤ mostOperands) && decide (meth.sig.returnType = rt) && !meth.locks && decide (parseMethodDescriptor y.desc = some meth.sig)) = true) : (Jvm.Cond.code y bytes mx rt).before a s = true := by
  simp only [Bool.and_eq_true, beq_iff_eq, Bool.not_eq_true', decide_eq_true_eq] at h5
  obtain ⟨⟨⟨⟨⟨g1, g2⟩, g3⟩, g4⟩, g5⟩, g6⟩ := h5
  simp [Cond.before, Cond.holds, Cond.value, h1, h2, h3, h4, g1, g2, g3, g4, g5, g6]
def isCode : Jvm.Cond → Bool
  | .code _ _ _ _ => true
  | _ => false
theorem all_split {L : List Jvm.Cond} {P : Jvm.Cond → Bool} (h1 : L.all (fun c => isCode c || P c) = true) (h2 : ∀ c ∈ L.filter isCode, P c = true) : L.all P = true := by
  refine List.all_eq_true.mpr fun c hc => ?_
  have h := List.all_eq_true.mp h1 c hc
  rcases Bool.eq_false_or_eq_true (isCode c) with hi | hi
  · exact h2 c (List.mem_filter.mpr ⟨hc, hi⟩)
  · simpa [hi] using h
set_option maxRecDepth 65536 in
theorem w_c0 : (Jvm.Cond.code x code maxLocals ret).before args0 about1 = true := code_word (m := ⟨1, 1⟩) (meth := k1m1) (c := k1c1) (by decide +kernel) rfl rfl rfl (by decide +kernel)
set_option maxRecDepth 65536 in
theorem w_c1 : (Jvm.Cond.code ({ cls := "com/example/crisp_typedef/crisptypedef/SignificandIsZeroPinLaw", name := "pick", desc := "(I)C" } : Jvm.MethodName) method_3_code (2 : Nat) (Option.some Jvm.ClassFile.FieldType.char)).before args0 about1 = true := code_word (m := ⟨1, 2⟩) (meth := k1m2) (c := k1c2) (by decide +kernel) rfl rfl rfl (by decide +kernel)
set_option maxRecDepth 65536 in
theorem w_c2 : (Jvm.Cond.code ({ cls := "com/example/crisp_typedef/crisptypedef/SignificandIsZeroPinLaw", name := "build", desc := "(ICCCCC)Ljava/lang/String;" } : Jvm.MethodName) method_4_code (6 : Nat) (Option.some (Jvm.ClassFile.FieldType.object "java/lang/String"))).before args0 about1 = true := code_word (m := ⟨1, 3⟩) (meth := k1m3) (c := k1c3) (by decide +kernel) rfl rfl rfl (by decide +kernel)
set_option maxRecDepth 65536 in
theorem w_c3 : (Jvm.Cond.code ({ cls := "java/lang/String", name := "<init>", desc := "([C)V" } : Jvm.MethodName) jdk_42_method_3_code (2 : Nat) (Option.none : Option Jvm.ClassFile.FieldType)).before args0 about1 = true := code_word (m := ⟨7, 1⟩) (meth := k7m1) (c := k7c1) (by decide +kernel) rfl rfl rfl (by decide +kernel)
set_option maxRecDepth 65536 in
theorem w_c4 : (Jvm.Cond.code ({ cls := "java/lang/String", name := "<init>", desc := "([CIILjava/lang/Void;)V" } : Jvm.MethodName) jdk_42_method_149_code (6 : Nat) (Option.none : Option Jvm.ClassFile.FieldType)).before args0 about1 = true := code_word (m := ⟨7, 4⟩) (meth := k7m4) (c := k7c4) (by decide +kernel) rfl rfl rfl (by decide +kernel)
set_option maxRecDepth 65536 in
theorem w_c5 : (Jvm.Cond.code ({ cls := "java/lang/Object", name := "<init>", desc := "()V" } : Jvm.MethodName) object_method_1_code (1 : Nat) (Option.none : Option Jvm.ClassFile.FieldType)).before args0 about1 = true := code_word (m := ⟨0, 0⟩) (meth := k0m0) (c := k0c0) (by decide +kernel) rfl rfl rfl (by decide +kernel)
set_option maxRecDepth 65536 in
theorem w_c6 : (Jvm.Cond.code ({ cls := "java/lang/StringUTF16", name := "compress", desc := "([CII)[B" } : Jvm.MethodName) jdk_52_method_16_code (6 : Nat) (Option.some (Jvm.ClassFile.FieldType.array Jvm.ClassFile.FieldType.byte))).before args0 about1 = true := code_word (m := ⟨8, 2⟩) (meth := k8m2) (c := k8c2) (by decide +kernel) rfl rfl rfl (by decide +kernel)
set_option maxRecDepth 65536 in
theorem w_c7 : (Jvm.Cond.code ({ cls := "java/lang/StringUTF16", name := "compress", desc := "([CI[BII)I" } : Jvm.MethodName) jdk_52_method_21_code (7 : Nat) (Option.some Jvm.ClassFile.FieldType.int)).before args0 about1 = true := code_word (m := ⟨8, 3⟩) (meth := k8m3) (c := k8c3) (by decide +kernel) rfl rfl rfl (by decide +kernel)
set_option maxRecDepth 65536 in
theorem w_c8 : (Jvm.Cond.code ({ cls := "java/lang/StringUTF16", name := "coderFromArrayLen", desc := "([BI)B" } : Jvm.MethodName) jdk_52_method_15_code (2 : Nat) (Option.some Jvm.ClassFile.FieldType.byte)).before args0 about1 = true := code_word (m := ⟨8, 1⟩) (meth := k8m1) (c := k8c1) (by decide +kernel) rfl rfl rfl (by decide +kernel)
set_option maxRecDepth 65536 in
theorem w_c9 : (Jvm.Cond.code ({ cls := "com/example/crisp_typedef/crisptypedef/NumberText", name := "significand", desc := "(Ljava/lang/CharSequence;)Lcom/example/crisp_typedef/crisptypedef/NumberText$Significand;" } : Jvm.MethodName) prog_20_method_5_code (7 : Nat) (Option.some (Jvm.ClassFile.FieldType.object "com/example/crisp_typedef/crisptypedef/NumberText$Significand"))).before args0 about1 = true := code_word (m := ⟨9, 1⟩) (meth := k9m1) (c := k9c1) (by decide +kernel) rfl rfl rfl (by decide +kernel)
set_option maxRecDepth 65536 in
theorem w_c10 : (Jvm.Cond.code ({ cls := "com/example/crisp_typedef/crisptypedef/NumberText", name := "parse", desc := "(Ljava/lang/CharSequence;)Lcom/example/crisp_typedef/crisptypedef/NumberText$Parts;" } : Jvm.MethodName) prog_20_method_6_code (11 : Nat) (Option.some (Jvm.ClassFile.FieldType.object "com/example/crisp_typedef/crisptypedef/NumberText$Parts"))).before args0 about1 = true := code_word (m := ⟨9, 2⟩) (meth := k9m2) (c := k9c2) (by decide +kernel) rfl rfl rfl (by decide +kernel)
set_option maxRecDepth 65536 in
theorem w_c11 : (Jvm.Cond.code ({ cls := "java/lang/String", name := "length", desc := "()I" } : Jvm.MethodName) jdk_42_method_54_code (1 : Nat) (Option.some Jvm.ClassFile.FieldType.int)).before args0 about1 = true := code_word (m := ⟨7, 2⟩) (meth := k7m2) (c := k7c2) (by decide +kernel) rfl rfl rfl (by decide +kernel)
set_option maxRecDepth 65536 in
theorem w_c12 : (Jvm.Cond.code ({ cls := "java/lang/String", name := "coder", desc := "()B" } : Jvm.MethodName) jdk_42_method_152_code (1 : Nat) (Option.some Jvm.ClassFile.FieldType.byte)).before args0 about1 = true := code_word (m := ⟨7, 5⟩) (meth := k7m5) (c := k7c5) (by decide +kernel) rfl rfl rfl (by decide +kernel)
set_option maxRecDepth 65536 in
theorem w_c13 : (Jvm.Cond.code ({ cls := "java/lang/String", name := "charAt", desc := "(I)C" } : Jvm.MethodName) jdk_42_method_56_code (2 : Nat) (Option.some Jvm.ClassFile.FieldType.char)).before args0 about1 = true := code_word (m := ⟨7, 3⟩) (meth := k7m3) (c := k7c3) (by decide +kernel) rfl rfl rfl (by decide +kernel)
set_option maxRecDepth 65536 in
theorem w_c14 : (Jvm.Cond.code ({ cls := "java/lang/String", name := "isLatin1", desc := "()Z" } : Jvm.MethodName) jdk_42_method_154_code (1 : Nat) (Option.some Jvm.ClassFile.FieldType.boolean)).before args0 about1 = true := code_word (m := ⟨7, 6⟩) (meth := k7m6) (c := k7c6) (by decide +kernel) rfl rfl rfl (by decide +kernel)
set_option maxRecDepth 65536 in
theorem w_c15 : (Jvm.Cond.code ({ cls := "java/lang/StringLatin1", name := "charAt", desc := "([BI)C" } : Jvm.MethodName) jdk_43_method_2_code (2 : Nat) (Option.some Jvm.ClassFile.FieldType.char)).before args0 about1 = true := code_word (m := ⟨10, 1⟩) (meth := k10m1) (c := k10c1) (by decide +kernel) rfl rfl rfl (by decide +kernel)
set_option maxRecDepth 65536 in
theorem w_c16 : (Jvm.Cond.code ({ cls := "java/lang/String", name := "checkIndex", desc := "(II)V" } : Jvm.MethodName) jdk_42_method_155_code (2 : Nat) (Option.none : Option Jvm.ClassFile.FieldType)).before args0 about1 = true := code_word (m := ⟨7, 7⟩) (meth := k7m7) (c := k7c7) (by decide +kernel) rfl rfl rfl (by decide +kernel)
set_option maxRecDepth 65536 in
theorem w_c17 : (Jvm.Cond.code ({ cls := "jdk/internal/util/Preconditions", name := "checkIndex", desc := "(IILjava/util/function/BiFunction;)I" } : Jvm.MethodName) jdk_41_method_11_code (3 : Nat) (Option.some Jvm.ClassFile.FieldType.int)).before args0 about1 = true := code_word (m := ⟨11, 1⟩) (meth := k11m1) (c := k11c1) (by decide +kernel) rfl rfl rfl (by decide +kernel)
set_option maxRecDepth 65536 in
theorem w_c18 : (Jvm.Cond.code ({ cls := "com/example/crisp_typedef/crisptypedef/NumberText", name := "digitsEnd", desc := "(Ljava/lang/CharSequence;I)I" } : Jvm.MethodName) prog_20_method_7_code (3 : Nat) (Option.some Jvm.ClassFile.FieldType.int)).before args0 about1 = true := code_word (m := ⟨9, 3⟩) (meth := k9m3) (c := k9c3) (by decide +kernel) rfl rfl rfl (by decide +kernel)
set_option maxRecDepth 65536 in
theorem w_c19 : (Jvm.Cond.code ({ cls := "com/example/crisp_typedef/crisptypedef/NumberText$Parts", name := "<init>", desc := "(ZIIIJ)V" } : Jvm.MethodName) prog_21_method_1_code (7 : Nat) (Option.none : Option Jvm.ClassFile.FieldType)).before args0 about1 = true := code_word (m := ⟨13, 0⟩) (meth := k13m0) (c := k13c0) (by decide +kernel) rfl rfl rfl (by decide +kernel)
set_option maxRecDepth 65536 in
theorem w_c20 : (Jvm.Cond.code ({ cls := "java/lang/Record", name := "<init>", desc := "()V" } : Jvm.MethodName) jdk_30_method_1_code (1 : Nat) (Option.none : Option Jvm.ClassFile.FieldType)).before args0 about1 = true := code_word (m := ⟨12, 0⟩) (meth := k12m0) (c := k12c0) (by decide +kernel) rfl rfl rfl (by decide +kernel)
set_option maxRecDepth 65536 in
theorem w_c21 : (Jvm.Cond.code ({ cls := "com/example/crisp_typedef/crisptypedef/NumberText$Parts", name := "start", desc := "()I" } : Jvm.MethodName) prog_21_method_6_code (1 : Nat) (Option.some Jvm.ClassFile.FieldType.int)).before args0 about1 = true := code_word (m := ⟨13, 2⟩) (meth := k13m2) (c := k13c2) (by decide +kernel) rfl rfl rfl (by decide +kernel)
set_option maxRecDepth 65536 in
theorem w_c22 : (Jvm.Cond.code ({ cls := "com/example/crisp_typedef/crisptypedef/NumberText$Parts", name := "end", desc := "()I" } : Jvm.MethodName) prog_21_method_8_code (1 : Nat) (Option.some Jvm.ClassFile.FieldType.int)).before args0 about1 = true := code_word (m := ⟨13, 4⟩) (meth := k13m4) (c := k13c4) (by decide +kernel) rfl rfl rfl (by decide +kernel)
set_option maxRecDepth 65536 in
theorem w_c23 : (Jvm.Cond.code ({ cls := "com/example/crisp_typedef/crisptypedef/NumberText", name := "isZeroOrPoint", desc := "(C)Z" } : Jvm.MethodName) prog_20_method_9_code (1 : Nat) (Option.some Jvm.ClassFile.FieldType.boolean)).before args0 about1 = true := code_word (m := ⟨9, 5⟩) (meth := k9m5) (c := k9c5) (by decide +kernel) rfl rfl rfl (by decide +kernel)
set_option maxRecDepth 65536 in
theorem w_c24 : (Jvm.Cond.code ({ cls := "com/example/crisp_typedef/crisptypedef/NumberText$Parts", name := "point", desc := "()I" } : Jvm.MethodName) prog_21_method_7_code (1 : Nat) (Option.some Jvm.ClassFile.FieldType.int)).before args0 about1 = true := code_word (m := ⟨13, 3⟩) (meth := k13m3) (c := k13c3) (by decide +kernel) rfl rfl rfl (by decide +kernel)
set_option maxRecDepth 65536 in
theorem w_c25 : (Jvm.Cond.code ({ cls := "com/example/crisp_typedef/crisptypedef/NumberText$Parts", name := "negative", desc := "()Z" } : Jvm.MethodName) prog_21_method_5_code (1 : Nat) (Option.some Jvm.ClassFile.FieldType.boolean)).before args0 about1 = true := code_word (m := ⟨13, 1⟩) (meth := k13m1) (c := k13c1) (by decide +kernel) rfl rfl rfl (by decide +kernel)
set_option maxRecDepth 65536 in
theorem w_c26 : (Jvm.Cond.code ({ cls := "com/example/crisp_typedef/crisptypedef/NumberText$Parts", name := "exponent", desc := "()J" } : Jvm.MethodName) prog_21_method_9_code (1 : Nat) (Option.some Jvm.ClassFile.FieldType.long)).before args0 about1 = true := code_word (m := ⟨13, 5⟩) (meth := k13m5) (c := k13c5) (by decide +kernel) rfl rfl rfl (by decide +kernel)
set_option maxRecDepth 65536 in
theorem w_c27 : (Jvm.Cond.code ({ cls := "com/example/crisp_typedef/crisptypedef/NumberText$Significand", name := "<init>", desc := "(ZIIIJ)V" } : Jvm.MethodName) prog_22_method_1_code (7 : Nat) (Option.none : Option Jvm.ClassFile.FieldType)).before args0 about1 = true := code_word (m := ⟨14, 0⟩) (meth := k14m0) (c := k14c0) (by decide +kernel) rfl rfl rfl (by decide +kernel)
set_option maxRecDepth 65536 in
theorem w_c28 : (Jvm.Cond.code ({ cls := "com/example/crisp_typedef/crisptypedef/SignificandIsZeroPinLaw", name := "isE", desc := "(C)Z" } : Jvm.MethodName) method_5_code (1 : Nat) (Option.some Jvm.ClassFile.FieldType.boolean)).before args0 about1 = true := code_word (m := ⟨1, 4⟩) (meth := k1m4) (c := k1c4) (by decide +kernel) rfl rfl rfl (by decide +kernel)
set_option maxRecDepth 65536 in
theorem w_c29 : (Jvm.Cond.code ({ cls := "com/example/crisp_typedef/crisptypedef/SignificandIsZeroPinLaw", name := "isNz", desc := "(C)Z" } : Jvm.MethodName) method_6_code (1 : Nat) (Option.some Jvm.ClassFile.FieldType.boolean)).before args0 about1 = true := code_word (m := ⟨1, 5⟩) (meth := k1m5) (c := k1c5) (by decide +kernel) rfl rfl rfl (by decide +kernel)
set_option maxRecDepth 65536 in
theorem w_c30 : (Jvm.Cond.code ({ cls := "com/example/crisp_typedef/crisptypedef/NumberText$Significand", name := "isZero", desc := "()Z" } : Jvm.MethodName) prog_22_method_2_code (1 : Nat) (Option.some Jvm.ClassFile.FieldType.boolean)).before args0 about1 = true := code_word (m := ⟨14, 1⟩) (meth := k14m1) (c := k14c1) (by decide +kernel) rfl rfl rfl (by decide +kernel)
set_option maxRecDepth 65536 in
theorem w_c31 : (Jvm.Cond.code ({ cls := "com/example/crisp_typedef/crisptypedef/NumberText", name := "exponent", desc := "(Ljava/lang/CharSequence;II)J" } : Jvm.MethodName) prog_20_method_8_code (6 : Nat) (Option.some Jvm.ClassFile.FieldType.long)).before args0 about1 = true := code_word (m := ⟨9, 4⟩) (meth := k9m4) (c := k9c4) (by decide +kernel) rfl rfl rfl (by decide +kernel)
def codes1 : List Jvm.Cond := [Jvm.Cond.code x code maxLocals ret, Jvm.Cond.code ({ cls := "com/example/crisp_typedef/crisptypedef/SignificandIsZeroPinLaw", name := "pick", desc := "(I)C" } : Jvm.MethodName) method_3_code (2 : Nat) (Option.some Jvm.ClassFile.FieldType.char), Jvm.Cond.code ({ cls := "com/example/crisp_typedef/crisptypedef/SignificandIsZeroPinLaw", name := "build", desc := "(ICCCCC)Ljava/lang/String;" } : Jvm.MethodName) method_4_code (6 : Nat) (Option.some (Jvm.ClassFile.FieldType.object "java/lang/String")), Jvm.Cond.code ({ cls := "java/lang/String", name := "<init>", desc := "([C)V" } : Jvm.MethodName) jdk_42_method_3_code (2 : Nat) (Option.none : Option Jvm.ClassFile.FieldType), Jvm.Cond.code ({ cls := "java/lang/String", name := "<init>", desc := "([CIILjava/lang/Void;)V" } : Jvm.MethodName) jdk_42_method_149_code (6 : Nat) (Option.none : Option Jvm.ClassFile.FieldType), Jvm.Cond.code ({ cls := "java/lang/Object", name := "<init>", desc := "()V" } : Jvm.MethodName) object_method_1_code (1 : Nat) (Option.none : Option Jvm.ClassFile.FieldType), Jvm.Cond.code ({ cls := "java/lang/StringUTF16", name := "compress", desc := "([CII)[B" } : Jvm.MethodName) jdk_52_method_16_code (6 : Nat) (Option.some (Jvm.ClassFile.FieldType.array Jvm.ClassFile.FieldType.byte)), Jvm.Cond.code ({ cls := "java/lang/StringUTF16", name := "compress", desc := "([CI[BII)I" } : Jvm.MethodName) jdk_52_method_21_code (7 : Nat) (Option.some Jvm.ClassFile.FieldType.int), Jvm.Cond.code ({ cls := "java/lang/StringUTF16", name := "coderFromArrayLen", desc := "([BI)B" } : Jvm.MethodName) jdk_52_method_15_code (2 : Nat) (Option.some Jvm.ClassFile.FieldType.byte), Jvm.Cond.code ({ cls := "com/example/crisp_typedef/crisptypedef/NumberText", name := "significand", desc := "(Ljava/lang/CharSequence;)Lcom/example/crisp_typedef/crisptypedef/NumberText$Significand;" } : Jvm.MethodName) prog_20_method_5_code (7 : Nat) (Option.some (Jvm.ClassFile.FieldType.object "com/example/crisp_typedef/crisptypedef/NumberText$Significand")), Jvm.Cond.code ({ cls := "com/example/crisp_typedef/crisptypedef/NumberText", name := "parse", desc := "(Ljava/lang/CharSequence;)Lcom/example/crisp_typedef/crisptypedef/NumberText$Parts;" } : Jvm.MethodName) prog_20_method_6_code (11 : Nat) (Option.some (Jvm.ClassFile.FieldType.object "com/example/crisp_typedef/crisptypedef/NumberText$Parts")), Jvm.Cond.code ({ cls := "java/lang/String", name := "length", desc := "()I" } : Jvm.MethodName) jdk_42_method_54_code (1 : Nat) (Option.some Jvm.ClassFile.FieldType.int), Jvm.Cond.code ({ cls := "java/lang/String", name := "coder", desc := "()B" } : Jvm.MethodName) jdk_42_method_152_code (1 : Nat) (Option.some Jvm.ClassFile.FieldType.byte), Jvm.Cond.code ({ cls := "java/lang/String", name := "charAt", desc := "(I)C" } : Jvm.MethodName) jdk_42_method_56_code (2 : Nat) (Option.some Jvm.ClassFile.FieldType.char), Jvm.Cond.code ({ cls := "java/lang/String", name := "isLatin1", desc := "()Z" } : Jvm.MethodName) jdk_42_method_154_code (1 : Nat) (Option.some Jvm.ClassFile.FieldType.boolean), Jvm.Cond.code ({ cls := "java/lang/StringLatin1", name := "charAt", desc := "([BI)C" } : Jvm.MethodName) jdk_43_method_2_code (2 : Nat) (Option.some Jvm.ClassFile.FieldType.char), Jvm.Cond.code ({ cls := "java/lang/String", name := "checkIndex", desc := "(II)V" } : Jvm.MethodName) jdk_42_method_155_code (2 : Nat) (Option.none : Option Jvm.ClassFile.FieldType), Jvm.Cond.code ({ cls := "jdk/internal/util/Preconditions", name := "checkIndex", desc := "(IILjava/util/function/BiFunction;)I" } : Jvm.MethodName) jdk_41_method_11_code (3 : Nat) (Option.some Jvm.ClassFile.FieldType.int), Jvm.Cond.code ({ cls := "com/example/crisp_typedef/crisptypedef/NumberText", name := "digitsEnd", desc := "(Ljava/lang/CharSequence;I)I" } : Jvm.MethodName) prog_20_method_7_code (3 : Nat) (Option.some Jvm.ClassFile.FieldType.int), Jvm.Cond.code ({ cls := "com/example/crisp_typedef/crisptypedef/NumberText$Parts", name := "<init>", desc := "(ZIIIJ)V" } : Jvm.MethodName) prog_21_method_1_code (7 : Nat) (Option.none : Option Jvm.ClassFile.FieldType), Jvm.Cond.code ({ cls := "java/lang/Record", name := "<init>", desc := "()V" } : Jvm.MethodName) jdk_30_method_1_code (1 : Nat) (Option.none : Option Jvm.ClassFile.FieldType), Jvm.Cond.code ({ cls := "com/example/crisp_typedef/crisptypedef/NumberText$Parts", name := "start", desc := "()I" } : Jvm.MethodName) prog_21_method_6_code (1 : Nat) (Option.some Jvm.ClassFile.FieldType.int), Jvm.Cond.code ({ cls := "com/example/crisp_typedef/crisptypedef/NumberText$Parts", name := "end", desc := "()I" } : Jvm.MethodName) prog_21_method_8_code (1 : Nat) (Option.some Jvm.ClassFile.FieldType.int), Jvm.Cond.code ({ cls := "com/example/crisp_typedef/crisptypedef/NumberText", name := "isZeroOrPoint", desc := "(C)Z" } : Jvm.MethodName) prog_20_method_9_code (1 : Nat) (Option.some Jvm.ClassFile.FieldType.boolean), Jvm.Cond.code ({ cls := "com/example/crisp_typedef/crisptypedef/NumberText$Parts", name := "point", desc := "()I" } : Jvm.MethodName) prog_21_method_7_code (1 : Nat) (Option.some Jvm.ClassFile.FieldType.int), Jvm.Cond.code ({ cls := "com/example/crisp_typedef/crisptypedef/NumberText$Parts", name := "negative", desc := "()Z" } : Jvm.MethodName) prog_21_method_5_code (1 : Nat) (Option.some Jvm.ClassFile.FieldType.boolean), Jvm.Cond.code ({ cls := "com/example/crisp_typedef/crisptypedef/NumberText$Parts", name := "exponent", desc := "()J" } : Jvm.MethodName) prog_21_method_9_code (1 : Nat) (Option.some Jvm.ClassFile.FieldType.long), Jvm.Cond.code ({ cls := "com/example/crisp_typedef/crisptypedef/NumberText$Significand", name := "<init>", desc := "(ZIIIJ)V" } : Jvm.MethodName) prog_22_method_1_code (7 : Nat) (Option.none : Option Jvm.ClassFile.FieldType), Jvm.Cond.code ({ cls := "com/example/crisp_typedef/crisptypedef/SignificandIsZeroPinLaw", name := "isE", desc := "(C)Z" } : Jvm.MethodName) method_5_code (1 : Nat) (Option.some Jvm.ClassFile.FieldType.boolean), Jvm.Cond.code ({ cls := "com/example/crisp_typedef/crisptypedef/SignificandIsZeroPinLaw", name := "isNz", desc := "(C)Z" } : Jvm.MethodName) method_6_code (1 : Nat) (Option.some Jvm.ClassFile.FieldType.boolean), Jvm.Cond.code ({ cls := "com/example/crisp_typedef/crisptypedef/NumberText$Significand", name := "isZero", desc := "()Z" } : Jvm.MethodName) prog_22_method_2_code (1 : Nat) (Option.some Jvm.ClassFile.FieldType.boolean), Jvm.Cond.code ({ cls := "com/example/crisp_typedef/crisptypedef/NumberText", name := "exponent", desc := "(Ljava/lang/CharSequence;II)J" } : Jvm.MethodName) prog_20_method_8_code (6 : Nat) (Option.some Jvm.ClassFile.FieldType.long)]
set_option maxRecDepth 65536 in
theorem codes_eq : words1.filter isCode = codes1 := rfl
theorem w_codes : ∀ c ∈ words1.filter isCode, c.before args0 about1 = true := by
  rw [codes_eq]
  intro c hc
  simp only [codes1, List.mem_cons, List.not_mem_nil, or_false] at hc
  rcases hc with rfl | rfl | rfl | rfl | rfl | rfl | rfl | rfl | rfl | rfl | rfl | rfl | rfl | rfl | rfl | rfl | rfl | rfl | rfl | rfl | rfl | rfl | rfl | rfl | rfl | rfl | rfl | rfl | rfl | rfl | rfl | rfl
  · exact w_c0
  · exact w_c1
  · exact w_c2
  · exact w_c3
  · exact w_c4
  · exact w_c5
  · exact w_c6
  · exact w_c7
  · exact w_c8
  · exact w_c9
  · exact w_c10
  · exact w_c11
  · exact w_c12
  · exact w_c13
  · exact w_c14
  · exact w_c15
  · exact w_c16
  · exact w_c17
  · exact w_c18
  · exact w_c19
  · exact w_c20
  · exact w_c21
  · exact w_c22
  · exact w_c23
  · exact w_c24
  · exact w_c25
  · exact w_c26
  · exact w_c27
  · exact w_c28
  · exact w_c29
  · exact w_c30
  · exact w_c31
set_option maxRecDepth 65536 in
theorem w_t1 : (words1.take 24).all (fun c => isCode c || c.before args0 about1) = true := by decide +kernel
set_option maxRecDepth 65536 in
theorem w_t2 : ((words1.drop 24).take 24).all (fun c => isCode c || c.before args0 about1) = true := by decide +kernel
set_option maxRecDepth 65536 in
theorem w_t3 : (((words1.drop 24).drop 24).take 24).all (fun c => isCode c || c.before args0 about1) = true := by decide +kernel
set_option maxRecDepth 65536 in
theorem w_t4 : ((((words1.drop 24).drop 24).drop 24).take 24).all (fun c => isCode c || c.before args0 about1) = true := by decide +kernel
set_option maxRecDepth 65536 in
theorem w_t5 : (((((words1.drop 24).drop 24).drop 24).drop 24).take 24).all (fun c => isCode c || c.before args0 about1) = true := by decide +kernel
set_option maxRecDepth 65536 in
theorem w_t6 : ((((((words1.drop 24).drop 24).drop 24).drop 24).drop 24).take 24).all (fun c => isCode c || c.before args0 about1) = true := by decide +kernel
set_option maxRecDepth 65536 in
theorem w_t7 : (((((((words1.drop 24).drop 24).drop 24).drop 24).drop 24).drop 24).take 24).all (fun c => isCode c || c.before args0 about1) = true := by decide +kernel
set_option maxRecDepth 65536 in
theorem w_t8 : (((((((words1.drop 24).drop 24).drop 24).drop 24).drop 24).drop 24).drop 24).all (fun c => isCode c || c.before args0 about1) = true := by decide +kernel
theorem w_tables : (allAtoms (Jvm.Cond.code x code maxLocals ret :: tables_1)).before args0 about1 = true := by
  rw [allAtoms_all]
  show words1.all (fun c => c.before args0 about1) = true
  refine all_split ?_ w_codes
  rw [← List.take_append_drop 24 words1, List.all_append, w_t1, ← List.take_append_drop 24 (words1.drop 24), List.all_append, w_t2, ← List.take_append_drop 24 ((words1.drop 24).drop 24), List.all_append, w_t3, ← List.take_append_drop 24 (((words1.drop 24).drop 24).drop 24), List.all_append, w_t4, ← List.take_append_drop 24 ((((words1.drop 24).drop 24).drop 24).drop 24), List.all_append, w_t5, ← List.take_append_drop 24 (((((words1.drop 24).drop 24).drop 24).drop 24).drop 24), List.all_append, w_t6, ← List.take_append_drop 24 ((((((words1.drop 24).drop 24).drop 24).drop 24).drop 24).drop 24), List.all_append, w_t7, w_t8]
  rfl
set_option maxRecDepth 65536 in
theorem w_rest : rest_1_c.before args0 about1 = true := by decide +kernel
set_option maxRecDepth 65536 in
theorem w_case : (Jvm.Cond.and given_1 narrow_1).before args0 about1 = true := by decide +kernel
theorem w_applies : (headSpec (Jvm.Cond.code x code maxLocals ret :: tables_1) room_1).applies x e0.platform about1 = true :=
  (Spec.applies_iff w_frames).mpr ⟨w_running, w_runnable, w_alone, w_named, w_hears, w_ripe, w_room, w_tables⟩
theorem atStart : AtStart classFile x code maxLocals ret World_1 tables_1 room_1 Calls_1 rest_1 Pre_1 launch0 p0 e0 about1 theMethod args0 below0 :=
  ⟨lists_1, trivial, launch0.admits_env _ _ _, launch0.least_env, fairChoices_fair.cas, fairChoices_fair.clock, w_frames, w_args, w_heap, w_applies, trivial, w_rest, w_case⟩
end start1
theorem witness_1 : WitnessClaimed_1 := ⟨start1.p0, start1.e0, start1.about1, start1.theMethod, start1.args0, start1.below0, start1.atStart⟩
end Jvm.Pilot.@@N@@
