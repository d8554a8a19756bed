import JvmDerived
import JvmDerived.Pilot.@@N@@Statement
import JvmDerived.Pilot.@@N@@Code
set_option linter.unusedVariables false
set_option linter.unusedSimpArgs false
namespace Jvm.Pilot.@@N@@
open Jvm Jvm.ClassFile Sem Op Lib Jvm.Free Jvm.Stand Jvm.LawKit Jvm.RoadKit Bundle Jvm.Pilot.@@N@@.Jvm.D
def G (p : Program) (l : Launch) (e : Env) (R : Room) (s : State) (m : MethodId) (args : Array Value) (below : List Frame) (meth : Method) (c : Code) (n0 : Nat) (Q : Option Value → Heap → Prop) (h : Heap) (k n : Nat) (pc : Nat) (Ls : Array Slot) (st : List Value) : Prop :=
  ∀ T locs cells slots, Stand p l e R s m args below meth c T locs cells slots → Fr n0 locs → T.heap = h → cells ≤ k → slots ≤ n →
    ∃ s₂ o, Steps p.tables e below (T.setTop (mkF m pc Ls st)) s₂ ∧ s₂.status = .running ∧ Ended s₂ below o ∧ ∃ v L, o = .returned v ∧ (Q v s₂.heap ∧ Fr n0 L) ∧ FrameEnd s o s₂ L R.cells R.slots
def Cx (Z : State) (p : Program) (s : State) (m : MethodId) (meth : Method) (c : Code) (R : Room) (k n : Nat) (own nm : String) (code : ByteArray) (maxL : Nat) (ret : Option FieldType) : Prop :=
  p.tables.exec = Jvm.exec ∧ Z.Warmed39 s.vm ∧ s.vm.findClass own = some m.cls ∧ c.code = code ∧ c.maxLocals = maxL ∧ meth.sig.returnType = ret ∧ meth.name = nm ∧ meth.locks = false
def Dc (code : ByteArray) (pc : Nat) (i : Instr) (len pc' : Nat) : Prop := decode code pc = .ok (i, len) ∧ pc + len = pc'
def Bi (code : ByteArray) (pc : Nat) (f : Int → Instr) (pcY pcN : Nat) : Prop := ∃ o, decode code pc = .ok (f o, 3) ∧ 0 ≤ (pc : Int) + o ∧ ((pc : Int) + o).toNat = pcY ∧ pc + 3 = pcN
def Met (l : Launch) (Z : State) (y : MethodName) (bytes : ByteArray) (maxL : Nat) (ret : Option FieldType) (rm : Room) (as : Array Value) (h0 : Heap) (Q : Option Value → Heap → Prop) : Prop :=
  ∀ ws, MetFree l y (head1 (Jvm.Cond.code y bytes maxL ret :: ws) rm) (fun a U => a = as ∧ Z.Warmed39 U.vm ∧ U.heap = h0) (fun _ _ _ _ _ => True) (fun _ U o U' => ∃ v L, o = .returned v ∧ (Q v U'.heap ∧ Fr Z.heap.size L) ∧ FrameEnd U o U' L rm.cells rm.slots)

def Arx (Z : State) (h : Heap) (a : Addr) (k : ClassId) (ty : FieldType) (z : Int32) (vs : List Value) (dv : Value) (ad : String) : Prop := Arv Z h a k ty z vs dv ∧ Exa Z h a ad
section ArxS
variable {Z : State} {h h' : Heap} {a x : Addr} {k : ClassId} {ty : FieldType} {z : Int32} {vs vs' : List Value} {dv w : Value} {ad : String} {sl : Nat} {ws : List Addr}
theorem Arx.ext (F : Arx Z h a k ty z vs dv ad) (E : Ext h h') : Arx Z h' a k ty z vs dv ad := ⟨F.1.ext E, F.2.ext E⟩
theorem Arx.other (F : Arx Z h a k ty z vs dv ad) (W : Wr h h' x sl w) (q : a ≠ x) : Arx Z h' a k ty z vs dv ad := ⟨F.1.other W q, F.2.wr W⟩
theorem Arx.keep (F : Arx Z h a k ty z vs dv ad) (K : Keep h h' ws) (q : a ∉ ws) : Arx Z h' a k ty z vs dv ad := ⟨F.1.keep K q, F.2.keep K⟩
theorem Arx.lt (F : Arx Z h a k ty z vs dv ad) : a < h.size := F.1.lt
theorem Arx.pad (F : Arx Z h a k ty z vs dv ad) (q : ∀ i, vs'.getD i dv = vs.getD i dv) : Arx Z h a k ty z vs' dv ad := ⟨F.1.pad q, F.2⟩
theorem sto_of {C : String} {y : Addr} (A : Arx Z h a k ty z vs dv ad) (O : Ovr Z k C) (I : Ins Z h y C true) : Sto Z h a (.ref y) := by
  obtain ⟨⟨c, Ar, q, -⟩, -⟩ := A; exact Sto.ofV Ar q O I
theorem sto_ofA {C : String} {y : Addr} {t : FieldType} (A : Arx Z h a k ty z vs dv ad) (O : OvrA Z k t C) (I : Ins Z h y C true) : Sto Z h a (.ref y) := by
  obtain ⟨⟨c, Ar, q, -⟩, -⟩ := A; exact Sto.ofVA Ar q O I
end ArxS
section Walk
variable {p : Program} {l : Launch} {e : Env} {R : Room} {s : State} {m : MethodId} {args : Array Value} {below : List Frame} {meth : Method} {c : Code} {Z : State} {a0 : Array Value} {k n : Nat} {own nm : String} {code : ByteArray} {maxL : Nat} {ret : Option FieldType} {n0 : Nat} {Q : Option Value → Heap → Prop} {h : Heap} {pc pc' pcY pcN : Nat} {Ls : Array Slot} {st rest : List Value}
theorem G.mono {k' n' : Nat} (H : G p l e R s m args below meth c Z.heap.size Q h k n pc Ls st) (hk : k' ≤ k) (hn : n' ≤ n) : G p l e R s m args below meth c Z.heap.size Q h k' n' pc Ls st :=
  fun T locs cells slots X N eT a b => H T locs cells slots X N eT (Nat.le_trans a hk) (Nat.le_trans b hn)
theorem G.cast {st' : List Value} (H : G p l e R s m args below meth c Z.heap.size Q h k n pc Ls st') (q : st = st') : G p l e R s m args below meth c Z.heap.size Q h k n pc Ls st := q ▸ H
theorem G.post {Q' : Option Value → Heap → Prop} (H : G p l e R s m args below meth c Z.heap.size Q h k n pc Ls st) (q : ∀ v h, Q v h → Q' v h) : G p l e R s m args below meth c Z.heap.size Q' h k n pc Ls st :=
  fun T locs cells slots X N eT a b => by
    obtain ⟨s₂, o, h1, h2, h3, v, L, h4, ⟨h5, h6⟩, h7⟩ := H T locs cells slots X N eT a b
    exact ⟨s₂, o, h1, h2, h3, v, L, h4, ⟨q _ _ h5, h6⟩, h7⟩
theorem met_of {y : MethodName} {bytes : ByteArray} {rm : Room} {as : Array Value} {h0 : Heap} (pn : plainFor y = true) (ef : ∀ m, entryFrame m as maxL = mkF m 0 Ls [])
    (body : ∀ p e s m below meth c, Cx Z p s m meth c rm 0 0 y.cls y.name bytes maxL ret → G p l e rm s m as below meth c Z.heap.size Q h0 0 0 0 Ls []) : Met l Z y bytes maxL ret rm as h0 Q := by
  intro ws
  refine MetFree.of_bodySF pn hisR ?_
  intro p e s m args below meth c s₁ Bd hml0 hP hK
  obtain ⟨rfl, hZ, hh⟩ := hP
  have e0 : s₁.heap = h0 := by rw [← hh, Bd.state]; rfl
  have X0 : Stand p l e rm s m args below meth c s₁ [] 0 0 := Stand.of_body Bd
  rw [ef m]
  exact body p e s m below meth c ⟨Bd.exec, hZ, findClass_of_methodNamed Bd.named, Bd.bytes, hml0, Bd.returns, (name_of_methodNamed Bd.named Bd.method).1, BodyLoose.notSynchronized Bd⟩ s₁ [] 0 0 X0 (Fr.nil _) e0 (Nat.le_refl _) (Nat.le_refl _)
theorem g_iloadN {kx nx : Nat} (cx : Cx Z p s m meth c R kx nx own nm code maxL ret) {i : Fin 4} {v : Int32} (d : Dc code pc (.iload_n i) 1 pc') (hl : Ls[i.val]? = some (.val (.int v))) (H : G p l e R s m args below meth c Z.heap.size Q h k n pc' Ls (.int v :: st)) : G p l e R s m args below meth c Z.heap.size Q h k n pc Ls st := by
  obtain ⟨hx, hZ, hown, rfl, hml, hret, hnm, -⟩ := cx
  obtain ⟨d, rfl⟩ := d
  intro T locs cells slots X N eT hk hn
  obtain ⟨s₂, o, st2, r⟩ := H T locs cells slots X N eT hk hn
  exact ⟨s₂, o, Jvm.Free.XS.iloadN X.here hx rfl d hl st2, r⟩
theorem g_iload {kx nx : Nat} (cx : Cx Z p s m meth c R kx nx own nm code maxL ret) {i : Nat} {v : Int32} (d : Dc code pc (.iload i) 2 pc') (hl : Ls[i]? = some (.val (.int v))) (H : G p l e R s m args below meth c Z.heap.size Q h k n pc' Ls (.int v :: st)) : G p l e R s m args below meth c Z.heap.size Q h k n pc Ls st := by
  obtain ⟨hx, hZ, hown, rfl, hml, hret, hnm, -⟩ := cx
  obtain ⟨d, rfl⟩ := d
  intro T locs cells slots X N eT hk hn
  obtain ⟨s₂, o, st2, r⟩ := H T locs cells slots X N eT hk hn
  exact ⟨s₂, o, Jvm.Free.XS.iload X.here hx rfl d hl st2, r⟩
theorem g_istoreN {kx nx : Nat} (cx : Cx Z p s m meth c R kx nx own nm code maxL ret) {i : Fin 4} {v : Int32} {Ls' : Array Slot} (d : Dc code pc (.istore_n i) 1 pc') (hl : storeLocals Ls i.val (.int v) = some Ls') (H : G p l e R s m args below meth c Z.heap.size Q h k n pc' Ls' st) : G p l e R s m args below meth c Z.heap.size Q h k n pc Ls (.int v :: st) := by
  obtain ⟨hx, hZ, hown, rfl, hml, hret, hnm, -⟩ := cx
  obtain ⟨d, rfl⟩ := d
  intro T locs cells slots X N eT hk hn
  obtain ⟨s₂, o, st2, r⟩ := H T locs cells slots X N eT hk hn
  exact ⟨s₂, o, Jvm.Free.XS.istoreN X.here hx rfl d rfl hl st2, r⟩
theorem g_istore {kx nx : Nat} (cx : Cx Z p s m meth c R kx nx own nm code maxL ret) {i : Nat} {v : Int32} {Ls' : Array Slot} (d : Dc code pc (.istore i) 2 pc') (hl : storeLocals Ls i (.int v) = some Ls') (H : G p l e R s m args below meth c Z.heap.size Q h k n pc' Ls' st) : G p l e R s m args below meth c Z.heap.size Q h k n pc Ls (.int v :: st) := by
  obtain ⟨hx, hZ, hown, rfl, hml, hret, hnm, -⟩ := cx
  obtain ⟨d, rfl⟩ := d
  intro T locs cells slots X N eT hk hn
  obtain ⟨s₂, o, st2, r⟩ := H T locs cells slots X N eT hk hn
  exact ⟨s₂, o, Jvm.Free.XS.istore X.here hx rfl d rfl hl st2, r⟩
theorem g_lloadN {kx nx : Nat} (cx : Cx Z p s m meth c R kx nx own nm code maxL ret) {i : Fin 4} {v : Int64} (d : Dc code pc (.lload_n i) 1 pc') (hl : Ls[i.val]? = some (.val (.long v))) (H : G p l e R s m args below meth c Z.heap.size Q h k n pc' Ls (.long v :: st)) : G p l e R s m args below meth c Z.heap.size Q h k n pc Ls st := by
  obtain ⟨hx, hZ, hown, rfl, hml, hret, hnm, -⟩ := cx
  obtain ⟨d, rfl⟩ := d
  intro T locs cells slots X N eT hk hn
  obtain ⟨s₂, o, st2, r⟩ := H T locs cells slots X N eT hk hn
  exact ⟨s₂, o, Jvm.Free.XS.lloadN X.here hx rfl d hl st2, r⟩
theorem g_lload {kx nx : Nat} (cx : Cx Z p s m meth c R kx nx own nm code maxL ret) {i : Nat} {v : Int64} (d : Dc code pc (.lload i) 2 pc') (hl : Ls[i]? = some (.val (.long v))) (H : G p l e R s m args below meth c Z.heap.size Q h k n pc' Ls (.long v :: st)) : G p l e R s m args below meth c Z.heap.size Q h k n pc Ls st := by
  obtain ⟨hx, hZ, hown, rfl, hml, hret, hnm, -⟩ := cx
  obtain ⟨d, rfl⟩ := d
  intro T locs cells slots X N eT hk hn
  obtain ⟨s₂, o, st2, r⟩ := H T locs cells slots X N eT hk hn
  exact ⟨s₂, o, Jvm.Free.XS.lload X.here hx rfl d hl st2, r⟩
theorem g_lstoreN {kx nx : Nat} (cx : Cx Z p s m meth c R kx nx own nm code maxL ret) {i : Fin 4} {v : Int64} {Ls' : Array Slot} (d : Dc code pc (.lstore_n i) 1 pc') (hl : storeLocals Ls i.val (.long v) = some Ls') (H : G p l e R s m args below meth c Z.heap.size Q h k n pc' Ls' st) : G p l e R s m args below meth c Z.heap.size Q h k n pc Ls (.long v :: st) := by
  obtain ⟨hx, hZ, hown, rfl, hml, hret, hnm, -⟩ := cx
  obtain ⟨d, rfl⟩ := d
  intro T locs cells slots X N eT hk hn
  obtain ⟨s₂, o, st2, r⟩ := H T locs cells slots X N eT hk hn
  exact ⟨s₂, o, Jvm.Free.XS.lstoreN X.here hx rfl d rfl hl st2, r⟩
theorem g_lstore {kx nx : Nat} (cx : Cx Z p s m meth c R kx nx own nm code maxL ret) {i : Nat} {v : Int64} {Ls' : Array Slot} (d : Dc code pc (.lstore i) 2 pc') (hl : storeLocals Ls i (.long v) = some Ls') (H : G p l e R s m args below meth c Z.heap.size Q h k n pc' Ls' st) : G p l e R s m args below meth c Z.heap.size Q h k n pc Ls (.long v :: st) := by
  obtain ⟨hx, hZ, hown, rfl, hml, hret, hnm, -⟩ := cx
  obtain ⟨d, rfl⟩ := d
  intro T locs cells slots X N eT hk hn
  obtain ⟨s₂, o, st2, r⟩ := H T locs cells slots X N eT hk hn
  exact ⟨s₂, o, Jvm.Free.XS.lstore X.here hx rfl d rfl hl st2, r⟩
theorem g_aloadN {kx nx : Nat} (cx : Cx Z p s m meth c R kx nx own nm code maxL ret) {i : Fin 4} {v : Value} (d : Dc code pc (.aload_n i) 1 pc') (hl : Ls[i.val]? = some (.val v)) (hv : v.isRef = true) (H : G p l e R s m args below meth c Z.heap.size Q h k n pc' Ls (v :: st)) : G p l e R s m args below meth c Z.heap.size Q h k n pc Ls st := by
  obtain ⟨hx, hZ, hown, rfl, hml, hret, hnm, -⟩ := cx
  obtain ⟨d, rfl⟩ := d
  intro T locs cells slots X N eT hk hn
  obtain ⟨s₂, o, st2, r⟩ := H T locs cells slots X N eT hk hn
  exact ⟨s₂, o, Jvm.Free.XS.aloadN X.here hx rfl d hl hv st2, r⟩
theorem g_aload {kx nx : Nat} (cx : Cx Z p s m meth c R kx nx own nm code maxL ret) {i : Nat} {v : Value} (d : Dc code pc (.aload i) 2 pc') (hl : Ls[i]? = some (.val v)) (hv : v.isRef = true) (H : G p l e R s m args below meth c Z.heap.size Q h k n pc' Ls (v :: st)) : G p l e R s m args below meth c Z.heap.size Q h k n pc Ls st := by
  obtain ⟨hx, hZ, hown, rfl, hml, hret, hnm, -⟩ := cx
  obtain ⟨d, rfl⟩ := d
  intro T locs cells slots X N eT hk hn
  obtain ⟨s₂, o, st2, r⟩ := H T locs cells slots X N eT hk hn
  exact ⟨s₂, o, Jvm.Free.XS.aload X.here hx rfl d hl hv st2, r⟩
theorem g_astoreN {kx nx : Nat} (cx : Cx Z p s m meth c R kx nx own nm code maxL ret) {i : Fin 4} {v : Value} {Ls' : Array Slot} (d : Dc code pc (.astore_n i) 1 pc') (hv : v.isRef = true) (hl : storeLocals Ls i.val v = some Ls') (H : G p l e R s m args below meth c Z.heap.size Q h k n pc' Ls' st) : G p l e R s m args below meth c Z.heap.size Q h k n pc Ls (v :: st) := by
  obtain ⟨hx, hZ, hown, rfl, hml, hret, hnm, -⟩ := cx
  obtain ⟨d, rfl⟩ := d
  intro T locs cells slots X N eT hk hn
  obtain ⟨s₂, o, st2, r⟩ := H T locs cells slots X N eT hk hn
  exact ⟨s₂, o, Jvm.Free.XS.astoreN X.here hx rfl d rfl hv hl st2, r⟩
theorem g_astore {kx nx : Nat} (cx : Cx Z p s m meth c R kx nx own nm code maxL ret) {i : Nat} {v : Value} {Ls' : Array Slot} (d : Dc code pc (.astore i) 2 pc') (hv : v.isRef = true) (hl : storeLocals Ls i v = some Ls') (H : G p l e R s m args below meth c Z.heap.size Q h k n pc' Ls' st) : G p l e R s m args below meth c Z.heap.size Q h k n pc Ls (v :: st) := by
  obtain ⟨hx, hZ, hown, rfl, hml, hret, hnm, -⟩ := cx
  obtain ⟨d, rfl⟩ := d
  intro T locs cells slots X N eT hk hn
  obtain ⟨s₂, o, st2, r⟩ := H T locs cells slots X N eT hk hn
  exact ⟨s₂, o, Jvm.Free.XS.astore X.here hx rfl d rfl hv hl st2, r⟩
theorem g_iconst {kx nx : Nat} (cx : Cx Z p s m meth c R kx nx own nm code maxL ret) {i : Int} {v : Int32} (d : Dc code pc (.iconst i) 1 pc') (hv : Int32.ofInt i = v) (H : G p l e R s m args below meth c Z.heap.size Q h k n pc' Ls (.int v :: st)) : G p l e R s m args below meth c Z.heap.size Q h k n pc Ls st := by
  obtain ⟨hx, hZ, hown, rfl, hml, hret, hnm, -⟩ := cx
  obtain ⟨d, rfl⟩ := d
  intro T locs cells slots X N eT hk hn
  obtain ⟨s₂, o, st2, r⟩ := H T locs cells slots X N eT hk hn
  exact ⟨s₂, o, Jvm.Free.XS.iconst X.here hx rfl d (by rw [hv]; exact st2), r⟩
theorem g_bipush {kx nx : Nat} (cx : Cx Z p s m meth c R kx nx own nm code maxL ret) {i : Int} {v : Int32} (d : Dc code pc (.bipush i) 2 pc') (hv : (Int8.ofInt i).toInt32 = v) (H : G p l e R s m args below meth c Z.heap.size Q h k n pc' Ls (.int v :: st)) : G p l e R s m args below meth c Z.heap.size Q h k n pc Ls st := by
  obtain ⟨hx, hZ, hown, rfl, hml, hret, hnm, -⟩ := cx
  obtain ⟨d, rfl⟩ := d
  intro T locs cells slots X N eT hk hn
  obtain ⟨s₂, o, st2, r⟩ := H T locs cells slots X N eT hk hn
  exact ⟨s₂, o, Jvm.Free.XS.bipush X.here hx rfl d (by rw [hv]; exact st2), r⟩
theorem g_sipush {kx nx : Nat} (cx : Cx Z p s m meth c R kx nx own nm code maxL ret) {i : Int} {v : Int32} (d : Dc code pc (.sipush i) 3 pc') (hv : (Int16.ofInt i).toInt32 = v) (H : G p l e R s m args below meth c Z.heap.size Q h k n pc' Ls (.int v :: st)) : G p l e R s m args below meth c Z.heap.size Q h k n pc Ls st := by
  obtain ⟨hx, hZ, hown, rfl, hml, hret, hnm, -⟩ := cx
  obtain ⟨d, rfl⟩ := d
  intro T locs cells slots X N eT hk hn
  obtain ⟨s₂, o, st2, r⟩ := H T locs cells slots X N eT hk hn
  exact ⟨s₂, o, Jvm.Free.XS.sipush X.here hx rfl d (by rw [hv]; exact st2), r⟩
theorem g_lconst {kx nx : Nat} (cx : Cx Z p s m meth c R kx nx own nm code maxL ret) {i : Fin 2} {v : Int64} (d : Dc code pc (.lconst i) 1 pc') (hv : Int64.ofNat i = v) (H : G p l e R s m args below meth c Z.heap.size Q h k n pc' Ls (.long v :: st)) : G p l e R s m args below meth c Z.heap.size Q h k n pc Ls st := by
  obtain ⟨hx, hZ, hown, rfl, hml, hret, hnm, -⟩ := cx
  obtain ⟨d, rfl⟩ := d
  intro T locs cells slots X N eT hk hn
  obtain ⟨s₂, o, st2, r⟩ := H T locs cells slots X N eT hk hn
  exact ⟨s₂, o, Jvm.Free.XS.lconst X.here hx rfl d (by rw [hv]; exact st2), r⟩
theorem g_aconst_null {kx nx : Nat} (cx : Cx Z p s m meth c R kx nx own nm code maxL ret)  (d : Dc code pc .aconst_null 1 pc') (H : G p l e R s m args below meth c Z.heap.size Q h k n pc' Ls (.null :: st)) : G p l e R s m args below meth c Z.heap.size Q h k n pc Ls st := by
  obtain ⟨hx, hZ, hown, rfl, hml, hret, hnm, -⟩ := cx
  obtain ⟨d, rfl⟩ := d
  intro T locs cells slots X N eT hk hn
  obtain ⟨s₂, o, st2, r⟩ := H T locs cells slots X N eT hk hn
  exact ⟨s₂, o, Jvm.Free.XS.aconstNull X.here hx rfl d  st2, r⟩
theorem g_iadd {kx nx : Nat} (cx : Cx Z p s m meth c R kx nx own nm code maxL ret) {x y : Int32} (d : Dc code pc .iadd 1 pc') (H : G p l e R s m args below meth c Z.heap.size Q h k n pc' Ls (.int (x + y) :: st)) : G p l e R s m args below meth c Z.heap.size Q h k n pc Ls (.int y :: .int x :: st) := by
  obtain ⟨hx, hZ, hown, rfl, hml, hret, hnm, -⟩ := cx
  obtain ⟨d, rfl⟩ := d
  intro T locs cells slots X N eT hk hn
  obtain ⟨s₂, o, st2, r⟩ := H T locs cells slots X N eT hk hn
  exact ⟨s₂, o, Jvm.Free.XS.iadd X.here hx rfl d rfl st2, r⟩
theorem g_ladd {kx nx : Nat} (cx : Cx Z p s m meth c R kx nx own nm code maxL ret) {x y : Int64} (d : Dc code pc .ladd 1 pc') (H : G p l e R s m args below meth c Z.heap.size Q h k n pc' Ls (.long (x + y) :: st)) : G p l e R s m args below meth c Z.heap.size Q h k n pc Ls (.long y :: .long x :: st) := by
  obtain ⟨hx, hZ, hown, rfl, hml, hret, hnm, -⟩ := cx
  obtain ⟨d, rfl⟩ := d
  intro T locs cells slots X N eT hk hn
  obtain ⟨s₂, o, st2, r⟩ := H T locs cells slots X N eT hk hn
  exact ⟨s₂, o, Jvm.Free.XS.ladd X.here hx rfl d rfl st2, r⟩
theorem g_isub {kx nx : Nat} (cx : Cx Z p s m meth c R kx nx own nm code maxL ret) {x y : Int32} (d : Dc code pc .isub 1 pc') (H : G p l e R s m args below meth c Z.heap.size Q h k n pc' Ls (.int (x - y) :: st)) : G p l e R s m args below meth c Z.heap.size Q h k n pc Ls (.int y :: .int x :: st) := by
  obtain ⟨hx, hZ, hown, rfl, hml, hret, hnm, -⟩ := cx
  obtain ⟨d, rfl⟩ := d
  intro T locs cells slots X N eT hk hn
  obtain ⟨s₂, o, st2, r⟩ := H T locs cells slots X N eT hk hn
  exact ⟨s₂, o, Jvm.Free.XS.isub X.here hx rfl d rfl st2, r⟩
theorem g_lsub {kx nx : Nat} (cx : Cx Z p s m meth c R kx nx own nm code maxL ret) {x y : Int64} (d : Dc code pc .lsub 1 pc') (H : G p l e R s m args below meth c Z.heap.size Q h k n pc' Ls (.long (x - y) :: st)) : G p l e R s m args below meth c Z.heap.size Q h k n pc Ls (.long y :: .long x :: st) := by
  obtain ⟨hx, hZ, hown, rfl, hml, hret, hnm, -⟩ := cx
  obtain ⟨d, rfl⟩ := d
  intro T locs cells slots X N eT hk hn
  obtain ⟨s₂, o, st2, r⟩ := H T locs cells slots X N eT hk hn
  exact ⟨s₂, o, Jvm.Free.XS.lsub X.here hx rfl d rfl st2, r⟩
theorem g_imul {kx nx : Nat} (cx : Cx Z p s m meth c R kx nx own nm code maxL ret) {x y : Int32} (d : Dc code pc .imul 1 pc') (H : G p l e R s m args below meth c Z.heap.size Q h k n pc' Ls (.int (x * y) :: st)) : G p l e R s m args below meth c Z.heap.size Q h k n pc Ls (.int y :: .int x :: st) := by
  obtain ⟨hx, hZ, hown, rfl, hml, hret, hnm, -⟩ := cx
  obtain ⟨d, rfl⟩ := d
  intro T locs cells slots X N eT hk hn
  obtain ⟨s₂, o, st2, r⟩ := H T locs cells slots X N eT hk hn
  exact ⟨s₂, o, Jvm.Free.XS.imul X.here hx rfl d rfl st2, r⟩
theorem g_lmul {kx nx : Nat} (cx : Cx Z p s m meth c R kx nx own nm code maxL ret) {x y : Int64} (d : Dc code pc .lmul 1 pc') (H : G p l e R s m args below meth c Z.heap.size Q h k n pc' Ls (.long (x * y) :: st)) : G p l e R s m args below meth c Z.heap.size Q h k n pc Ls (.long y :: .long x :: st) := by
  obtain ⟨hx, hZ, hown, rfl, hml, hret, hnm, -⟩ := cx
  obtain ⟨d, rfl⟩ := d
  intro T locs cells slots X N eT hk hn
  obtain ⟨s₂, o, st2, r⟩ := H T locs cells slots X N eT hk hn
  exact ⟨s₂, o, Jvm.Free.XS.lmul X.here hx rfl d rfl st2, r⟩
theorem g_iand {kx nx : Nat} (cx : Cx Z p s m meth c R kx nx own nm code maxL ret) {x y : Int32} (d : Dc code pc .iand 1 pc') (H : G p l e R s m args below meth c Z.heap.size Q h k n pc' Ls (.int (x &&& y) :: st)) : G p l e R s m args below meth c Z.heap.size Q h k n pc Ls (.int y :: .int x :: st) := by
  obtain ⟨hx, hZ, hown, rfl, hml, hret, hnm, -⟩ := cx
  obtain ⟨d, rfl⟩ := d
  intro T locs cells slots X N eT hk hn
  obtain ⟨s₂, o, st2, r⟩ := H T locs cells slots X N eT hk hn
  exact ⟨s₂, o, Jvm.Free.XS.iand X.here hx rfl d rfl st2, r⟩
theorem g_land {kx nx : Nat} (cx : Cx Z p s m meth c R kx nx own nm code maxL ret) {x y : Int64} (d : Dc code pc .land 1 pc') (H : G p l e R s m args below meth c Z.heap.size Q h k n pc' Ls (.long (x &&& y) :: st)) : G p l e R s m args below meth c Z.heap.size Q h k n pc Ls (.long y :: .long x :: st) := by
  obtain ⟨hx, hZ, hown, rfl, hml, hret, hnm, -⟩ := cx
  obtain ⟨d, rfl⟩ := d
  intro T locs cells slots X N eT hk hn
  obtain ⟨s₂, o, st2, r⟩ := H T locs cells slots X N eT hk hn
  exact ⟨s₂, o, Jvm.Free.XS.land X.here hx rfl d rfl st2, r⟩
theorem g_ior {kx nx : Nat} (cx : Cx Z p s m meth c R kx nx own nm code maxL ret) {x y : Int32} (d : Dc code pc .ior 1 pc') (H : G p l e R s m args below meth c Z.heap.size Q h k n pc' Ls (.int (x ||| y) :: st)) : G p l e R s m args below meth c Z.heap.size Q h k n pc Ls (.int y :: .int x :: st) := by
  obtain ⟨hx, hZ, hown, rfl, hml, hret, hnm, -⟩ := cx
  obtain ⟨d, rfl⟩ := d
  intro T locs cells slots X N eT hk hn
  obtain ⟨s₂, o, st2, r⟩ := H T locs cells slots X N eT hk hn
  exact ⟨s₂, o, Jvm.Free.XS.ior X.here hx rfl d rfl st2, r⟩
theorem g_lor {kx nx : Nat} (cx : Cx Z p s m meth c R kx nx own nm code maxL ret) {x y : Int64} (d : Dc code pc .lor 1 pc') (H : G p l e R s m args below meth c Z.heap.size Q h k n pc' Ls (.long (x ||| y) :: st)) : G p l e R s m args below meth c Z.heap.size Q h k n pc Ls (.long y :: .long x :: st) := by
  obtain ⟨hx, hZ, hown, rfl, hml, hret, hnm, -⟩ := cx
  obtain ⟨d, rfl⟩ := d
  intro T locs cells slots X N eT hk hn
  obtain ⟨s₂, o, st2, r⟩ := H T locs cells slots X N eT hk hn
  exact ⟨s₂, o, Jvm.Free.XS.lor X.here hx rfl d rfl st2, r⟩
theorem g_ixor {kx nx : Nat} (cx : Cx Z p s m meth c R kx nx own nm code maxL ret) {x y : Int32} (d : Dc code pc .ixor 1 pc') (H : G p l e R s m args below meth c Z.heap.size Q h k n pc' Ls (.int (x ^^^ y) :: st)) : G p l e R s m args below meth c Z.heap.size Q h k n pc Ls (.int y :: .int x :: st) := by
  obtain ⟨hx, hZ, hown, rfl, hml, hret, hnm, -⟩ := cx
  obtain ⟨d, rfl⟩ := d
  intro T locs cells slots X N eT hk hn
  obtain ⟨s₂, o, st2, r⟩ := H T locs cells slots X N eT hk hn
  exact ⟨s₂, o, Jvm.Free.XS.ixor X.here hx rfl d rfl st2, r⟩
theorem g_lxor {kx nx : Nat} (cx : Cx Z p s m meth c R kx nx own nm code maxL ret) {x y : Int64} (d : Dc code pc .lxor 1 pc') (H : G p l e R s m args below meth c Z.heap.size Q h k n pc' Ls (.long (x ^^^ y) :: st)) : G p l e R s m args below meth c Z.heap.size Q h k n pc Ls (.long y :: .long x :: st) := by
  obtain ⟨hx, hZ, hown, rfl, hml, hret, hnm, -⟩ := cx
  obtain ⟨d, rfl⟩ := d
  intro T locs cells slots X N eT hk hn
  obtain ⟨s₂, o, st2, r⟩ := H T locs cells slots X N eT hk hn
  exact ⟨s₂, o, Jvm.Free.XS.lxor X.here hx rfl d rfl st2, r⟩
theorem g_ishl {kx nx : Nat} (cx : Cx Z p s m meth c R kx nx own nm code maxL ret) {x : Int32} {y : Int32} (d : Dc code pc .ishl 1 pc') (H : G p l e R s m args below meth c Z.heap.size Q h k n pc' Ls (.int (x <<< (y &&& 31)) :: st)) : G p l e R s m args below meth c Z.heap.size Q h k n pc Ls (.int y :: .int x :: st) := by
  obtain ⟨hx, hZ, hown, rfl, hml, hret, hnm, -⟩ := cx
  obtain ⟨d, rfl⟩ := d
  intro T locs cells slots X N eT hk hn
  obtain ⟨s₂, o, st2, r⟩ := H T locs cells slots X N eT hk hn
  exact ⟨s₂, o, Jvm.Free.XS.ishl X.here hx rfl d rfl st2, r⟩
theorem g_ishr {kx nx : Nat} (cx : Cx Z p s m meth c R kx nx own nm code maxL ret) {x : Int32} {y : Int32} (d : Dc code pc .ishr 1 pc') (H : G p l e R s m args below meth c Z.heap.size Q h k n pc' Ls (.int (x >>> (y &&& 31)) :: st)) : G p l e R s m args below meth c Z.heap.size Q h k n pc Ls (.int y :: .int x :: st) := by
  obtain ⟨hx, hZ, hown, rfl, hml, hret, hnm, -⟩ := cx
  obtain ⟨d, rfl⟩ := d
  intro T locs cells slots X N eT hk hn
  obtain ⟨s₂, o, st2, r⟩ := H T locs cells slots X N eT hk hn
  exact ⟨s₂, o, Jvm.Free.XS.ishr X.here hx rfl d rfl st2, r⟩
theorem g_iushr {kx nx : Nat} (cx : Cx Z p s m meth c R kx nx own nm code maxL ret) {x : Int32} {y : Int32} (d : Dc code pc .iushr 1 pc') (H : G p l e R s m args below meth c Z.heap.size Q h k n pc' Ls (.int ((x.toUInt32 >>> (y &&& 31).toUInt32).toInt32) :: st)) : G p l e R s m args below meth c Z.heap.size Q h k n pc Ls (.int y :: .int x :: st) := by
  obtain ⟨hx, hZ, hown, rfl, hml, hret, hnm, -⟩ := cx
  obtain ⟨d, rfl⟩ := d
  intro T locs cells slots X N eT hk hn
  obtain ⟨s₂, o, st2, r⟩ := H T locs cells slots X N eT hk hn
  exact ⟨s₂, o, Jvm.Free.XS.iushr X.here hx rfl d rfl st2, r⟩
theorem g_lshl {kx nx : Nat} (cx : Cx Z p s m meth c R kx nx own nm code maxL ret) {x : Int64} {y : Int32} (d : Dc code pc .lshl 1 pc') (H : G p l e R s m args below meth c Z.heap.size Q h k n pc' Ls (.long (x <<< (y &&& 0x3f).toInt64) :: st)) : G p l e R s m args below meth c Z.heap.size Q h k n pc Ls (.int y :: .long x :: st) := by
  obtain ⟨hx, hZ, hown, rfl, hml, hret, hnm, -⟩ := cx
  obtain ⟨d, rfl⟩ := d
  intro T locs cells slots X N eT hk hn
  obtain ⟨s₂, o, st2, r⟩ := H T locs cells slots X N eT hk hn
  exact ⟨s₂, o, Jvm.Free.XS.lshl X.here hx rfl d rfl st2, r⟩
theorem g_lshr {kx nx : Nat} (cx : Cx Z p s m meth c R kx nx own nm code maxL ret) {x : Int64} {y : Int32} (d : Dc code pc .lshr 1 pc') (H : G p l e R s m args below meth c Z.heap.size Q h k n pc' Ls (.long (x >>> (y &&& 0x3f).toInt64) :: st)) : G p l e R s m args below meth c Z.heap.size Q h k n pc Ls (.int y :: .long x :: st) := by
  obtain ⟨hx, hZ, hown, rfl, hml, hret, hnm, -⟩ := cx
  obtain ⟨d, rfl⟩ := d
  intro T locs cells slots X N eT hk hn
  obtain ⟨s₂, o, st2, r⟩ := H T locs cells slots X N eT hk hn
  exact ⟨s₂, o, Jvm.Free.XS.lshr X.here hx rfl d rfl st2, r⟩
theorem g_lushr {kx nx : Nat} (cx : Cx Z p s m meth c R kx nx own nm code maxL ret) {x : Int64} {y : Int32} (d : Dc code pc .lushr 1 pc') (H : G p l e R s m args below meth c Z.heap.size Q h k n pc' Ls (.long ((x.toUInt64 >>> (y &&& 0x3f).toInt64.toUInt64).toInt64) :: st)) : G p l e R s m args below meth c Z.heap.size Q h k n pc Ls (.int y :: .long x :: st) := by
  obtain ⟨hx, hZ, hown, rfl, hml, hret, hnm, -⟩ := cx
  obtain ⟨d, rfl⟩ := d
  intro T locs cells slots X N eT hk hn
  obtain ⟨s₂, o, st2, r⟩ := H T locs cells slots X N eT hk hn
  exact ⟨s₂, o, Jvm.Free.XS.lushr X.here hx rfl d rfl st2, r⟩
theorem g_ineg {kx nx : Nat} (cx : Cx Z p s m meth c R kx nx own nm code maxL ret) {x : Int32} (d : Dc code pc .ineg 1 pc') (H : G p l e R s m args below meth c Z.heap.size Q h k n pc' Ls (.int (-x) :: st)) : G p l e R s m args below meth c Z.heap.size Q h k n pc Ls (.int x :: st) := by
  obtain ⟨hx, hZ, hown, rfl, hml, hret, hnm, -⟩ := cx
  obtain ⟨d, rfl⟩ := d
  intro T locs cells slots X N eT hk hn
  obtain ⟨s₂, o, st2, r⟩ := H T locs cells slots X N eT hk hn
  exact ⟨s₂, o, Jvm.Free.XS.ineg X.here hx rfl d rfl st2, r⟩
theorem g_lneg {kx nx : Nat} (cx : Cx Z p s m meth c R kx nx own nm code maxL ret) {x : Int64} (d : Dc code pc .lneg 1 pc') (H : G p l e R s m args below meth c Z.heap.size Q h k n pc' Ls (.long (-x) :: st)) : G p l e R s m args below meth c Z.heap.size Q h k n pc Ls (.long x :: st) := by
  obtain ⟨hx, hZ, hown, rfl, hml, hret, hnm, -⟩ := cx
  obtain ⟨d, rfl⟩ := d
  intro T locs cells slots X N eT hk hn
  obtain ⟨s₂, o, st2, r⟩ := H T locs cells slots X N eT hk hn
  exact ⟨s₂, o, Jvm.Free.XS.lneg X.here hx rfl d rfl st2, r⟩
theorem g_i2l {kx nx : Nat} (cx : Cx Z p s m meth c R kx nx own nm code maxL ret) {x : Int32} (d : Dc code pc .i2l 1 pc') (H : G p l e R s m args below meth c Z.heap.size Q h k n pc' Ls (.long (x.toInt64) :: st)) : G p l e R s m args below meth c Z.heap.size Q h k n pc Ls (.int x :: st) := by
  obtain ⟨hx, hZ, hown, rfl, hml, hret, hnm, -⟩ := cx
  obtain ⟨d, rfl⟩ := d
  intro T locs cells slots X N eT hk hn
  obtain ⟨s₂, o, st2, r⟩ := H T locs cells slots X N eT hk hn
  exact ⟨s₂, o, Jvm.Free.XS.i2l X.here hx rfl d rfl st2, r⟩
theorem g_l2i {kx nx : Nat} (cx : Cx Z p s m meth c R kx nx own nm code maxL ret) {x : Int64} (d : Dc code pc .l2i 1 pc') (H : G p l e R s m args below meth c Z.heap.size Q h k n pc' Ls (.int (x.toInt32) :: st)) : G p l e R s m args below meth c Z.heap.size Q h k n pc Ls (.long x :: st) := by
  obtain ⟨hx, hZ, hown, rfl, hml, hret, hnm, -⟩ := cx
  obtain ⟨d, rfl⟩ := d
  intro T locs cells slots X N eT hk hn
  obtain ⟨s₂, o, st2, r⟩ := H T locs cells slots X N eT hk hn
  exact ⟨s₂, o, Jvm.Free.XS.l2i X.here hx rfl d rfl st2, r⟩
theorem g_i2b {kx nx : Nat} (cx : Cx Z p s m meth c R kx nx own nm code maxL ret) {x : Int32} (d : Dc code pc .i2b 1 pc') (H : G p l e R s m args below meth c Z.heap.size Q h k n pc' Ls (.int (x.toInt8.toInt32) :: st)) : G p l e R s m args below meth c Z.heap.size Q h k n pc Ls (.int x :: st) := by
  obtain ⟨hx, hZ, hown, rfl, hml, hret, hnm, -⟩ := cx
  obtain ⟨d, rfl⟩ := d
  intro T locs cells slots X N eT hk hn
  obtain ⟨s₂, o, st2, r⟩ := H T locs cells slots X N eT hk hn
  exact ⟨s₂, o, Jvm.Free.XS.i2b X.here hx rfl d rfl st2, r⟩
theorem g_i2s {kx nx : Nat} (cx : Cx Z p s m meth c R kx nx own nm code maxL ret) {x : Int32} (d : Dc code pc .i2s 1 pc') (H : G p l e R s m args below meth c Z.heap.size Q h k n pc' Ls (.int (x.toInt16.toInt32) :: st)) : G p l e R s m args below meth c Z.heap.size Q h k n pc Ls (.int x :: st) := by
  obtain ⟨hx, hZ, hown, rfl, hml, hret, hnm, -⟩ := cx
  obtain ⟨d, rfl⟩ := d
  intro T locs cells slots X N eT hk hn
  obtain ⟨s₂, o, st2, r⟩ := H T locs cells slots X N eT hk hn
  exact ⟨s₂, o, Jvm.Free.XS.i2s X.here hx rfl d rfl st2, r⟩
theorem g_i2c {kx nx : Nat} (cx : Cx Z p s m meth c R kx nx own nm code maxL ret) {x : Int32} (d : Dc code pc .i2c 1 pc') (H : G p l e R s m args below meth c Z.heap.size Q h k n pc' Ls (.int (x.toUInt32.toUInt16.toUInt32.toInt32) :: st)) : G p l e R s m args below meth c Z.heap.size Q h k n pc Ls (.int x :: st) := by
  obtain ⟨hx, hZ, hown, rfl, hml, hret, hnm, -⟩ := cx
  obtain ⟨d, rfl⟩ := d
  intro T locs cells slots X N eT hk hn
  obtain ⟨s₂, o, st2, r⟩ := H T locs cells slots X N eT hk hn
  exact ⟨s₂, o, Jvm.Free.XS.i2c X.here hx rfl d rfl st2, r⟩
theorem g_idiv {kx nx : Nat} (cx : Cx Z p s m meth c R kx nx own nm code maxL ret) {x y : Int32} (d : Dc code pc .idiv 1 pc') (hy : y ≠ 0) (H : G p l e R s m args below meth c Z.heap.size Q h k n pc' Ls (.int (x / y) :: st)) : G p l e R s m args below meth c Z.heap.size Q h k n pc Ls (.int y :: .int x :: st) := by
  obtain ⟨hx, hZ, hown, rfl, hml, hret, hnm, -⟩ := cx
  obtain ⟨d, rfl⟩ := d
  intro T locs cells slots X N eT hk hn
  obtain ⟨s₂, o, st2, r⟩ := H T locs cells slots X N eT hk hn
  exact ⟨s₂, o, Jvm.Free.XS.idiv X.here hx rfl d rfl hy st2, r⟩
theorem g_ldiv {kx nx : Nat} (cx : Cx Z p s m meth c R kx nx own nm code maxL ret) {x y : Int64} (d : Dc code pc .ldiv 1 pc') (hy : y ≠ 0) (H : G p l e R s m args below meth c Z.heap.size Q h k n pc' Ls (.long (x / y) :: st)) : G p l e R s m args below meth c Z.heap.size Q h k n pc Ls (.long y :: .long x :: st) := by
  obtain ⟨hx, hZ, hown, rfl, hml, hret, hnm, -⟩ := cx
  obtain ⟨d, rfl⟩ := d
  intro T locs cells slots X N eT hk hn
  obtain ⟨s₂, o, st2, r⟩ := H T locs cells slots X N eT hk hn
  exact ⟨s₂, o, Jvm.Free.XS.ldiv X.here hx rfl d rfl hy st2, r⟩
theorem g_irem {kx nx : Nat} (cx : Cx Z p s m meth c R kx nx own nm code maxL ret) {x y : Int32} (d : Dc code pc .irem 1 pc') (hy : y ≠ 0) (H : G p l e R s m args below meth c Z.heap.size Q h k n pc' Ls (.int (x % y) :: st)) : G p l e R s m args below meth c Z.heap.size Q h k n pc Ls (.int y :: .int x :: st) := by
  obtain ⟨hx, hZ, hown, rfl, hml, hret, hnm, -⟩ := cx
  obtain ⟨d, rfl⟩ := d
  intro T locs cells slots X N eT hk hn
  obtain ⟨s₂, o, st2, r⟩ := H T locs cells slots X N eT hk hn
  exact ⟨s₂, o, Jvm.Free.XS.irem X.here hx rfl d rfl hy (by rw [irem_eq_mod]; exact st2), r⟩
theorem g_lrem {kx nx : Nat} (cx : Cx Z p s m meth c R kx nx own nm code maxL ret) {x y : Int64} (d : Dc code pc .lrem 1 pc') (hy : y ≠ 0) (H : G p l e R s m args below meth c Z.heap.size Q h k n pc' Ls (.long (x % y) :: st)) : G p l e R s m args below meth c Z.heap.size Q h k n pc Ls (.long y :: .long x :: st) := by
  obtain ⟨hx, hZ, hown, rfl, hml, hret, hnm, -⟩ := cx
  obtain ⟨d, rfl⟩ := d
  intro T locs cells slots X N eT hk hn
  obtain ⟨s₂, o, st2, r⟩ := H T locs cells slots X N eT hk hn
  exact ⟨s₂, o, Jvm.Free.XS.lrem X.here hx rfl d rfl hy (by rw [lrem_mod]; exact st2), r⟩
theorem g_iinc {kx nx : Nat} (cx : Cx Z p s m meth c R kx nx own nm code maxL ret) {i : Nat} {z : Int} {x v : Int32} {Ls' : Array Slot} (d : Dc code pc (.iinc i z) 3 pc') (hl : Ls[i]? = some (.val (.int x))) (hv : Int32.ofInt z = v) (hl' : storeLocals Ls i (.int (x + v)) = some Ls') (H : G p l e R s m args below meth c Z.heap.size Q h k n pc' Ls' st) : G p l e R s m args below meth c Z.heap.size Q h k n pc Ls st := by
  obtain ⟨hx, hZ, hown, rfl, hml, hret, hnm, -⟩ := cx
  obtain ⟨d, rfl⟩ := d
  intro T locs cells slots X N eT hk hn
  obtain ⟨s₂, o, st2, r⟩ := H T locs cells slots X N eT hk hn
  exact ⟨s₂, o, Jvm.Free.XS.iinc X.here hx rfl d hl (by rw [hv]; exact hl') st2, r⟩
theorem g_dup {kx nx : Nat} (cx : Cx Z p s m meth c R kx nx own nm code maxL ret) {v : Value} (d : Dc code pc .dup 1 pc') (hc : v.category = 1) (H : G p l e R s m args below meth c Z.heap.size Q h k n pc' Ls (v :: v :: st)) : G p l e R s m args below meth c Z.heap.size Q h k n pc Ls (v :: st) := by
  obtain ⟨hx, hZ, hown, rfl, hml, hret, hnm, -⟩ := cx
  obtain ⟨d, rfl⟩ := d
  intro T locs cells slots X N eT hk hn
  obtain ⟨s₂, o, st2, r⟩ := H T locs cells slots X N eT hk hn
  exact ⟨s₂, o, Jvm.Free.XS.dup X.here hx rfl d rfl hc st2, r⟩
theorem g_pop {kx nx : Nat} (cx : Cx Z p s m meth c R kx nx own nm code maxL ret) {v : Value} (d : Dc code pc .pop 1 pc') (hc : v.category = 1) (H : G p l e R s m args below meth c Z.heap.size Q h k n pc' Ls st) : G p l e R s m args below meth c Z.heap.size Q h k n pc Ls (v :: st) := by
  obtain ⟨hx, hZ, hown, rfl, hml, hret, hnm, -⟩ := cx
  obtain ⟨d, rfl⟩ := d
  intro T locs cells slots X N eT hk hn
  obtain ⟨s₂, o, st2, r⟩ := H T locs cells slots X N eT hk hn
  exact ⟨s₂, o, Jvm.Free.XS.pop X.here hx rfl d rfl hc st2, r⟩
theorem g_dup_x1 {kx nx : Nat} (cx : Cx Z p s m meth c R kx nx own nm code maxL ret) {v w : Value} (d : Dc code pc .dup_x1 1 pc') (hc : v.category = 1) (hc2 : w.category = 1) (H : G p l e R s m args below meth c Z.heap.size Q h k n pc' Ls (v :: w :: v :: st)) : G p l e R s m args below meth c Z.heap.size Q h k n pc Ls (v :: w :: st) := by
  obtain ⟨hx, hZ, hown, rfl, hml, hret, hnm, -⟩ := cx
  obtain ⟨d, rfl⟩ := d
  intro T locs cells slots X N eT hk hn
  obtain ⟨s₂, o, st2, r⟩ := H T locs cells slots X N eT hk hn
  exact ⟨s₂, o, Jvm.Free.XS.dupX1 X.here hx rfl d rfl hc hc2 st2, r⟩
theorem g_dup2 {kx nx : Nat} (cx : Cx Z p s m meth c R kx nx own nm code maxL ret) {v w : Value} (d : Dc code pc .dup2 1 pc') (hc : v.category = 1) (hc2 : w.category = 1) (H : G p l e R s m args below meth c Z.heap.size Q h k n pc' Ls (v :: w :: v :: w :: st)) : G p l e R s m args below meth c Z.heap.size Q h k n pc Ls (v :: w :: st) := by
  obtain ⟨hx, hZ, hown, rfl, hml, hret, hnm, -⟩ := cx
  obtain ⟨d, rfl⟩ := d
  intro T locs cells slots X N eT hk hn
  obtain ⟨s₂, o, st2, r⟩ := H T locs cells slots X N eT hk hn
  exact ⟨s₂, o, Jvm.Free.XT.dup2 X.here hx rfl d rfl hc hc2 st2, r⟩
theorem g_dup2L {kx nx : Nat} (cx : Cx Z p s m meth c R kx nx own nm code maxL ret) {v : Int64} (d : Dc code pc .dup2 1 pc') (H : G p l e R s m args below meth c Z.heap.size Q h k n pc' Ls (.long v :: .long v :: st)) : G p l e R s m args below meth c Z.heap.size Q h k n pc Ls (.long v :: st) := by
  obtain ⟨hx, hZ, hown, rfl, hml, hret, hnm, -⟩ := cx
  obtain ⟨d, rfl⟩ := d
  intro T locs cells slots X N eT hk hn
  obtain ⟨s₂, o, st2, r⟩ := H T locs cells slots X N eT hk hn
  exact ⟨s₂, o, Jvm.Free.XT.dup2L X.here hx rfl d rfl st2, r⟩
theorem g_goto {kx nx : Nat} (cx : Cx Z p s m meth c R kx nx own nm code maxL ret) (d : Bi code pc Instr.goto pcY pcN) (H : G p l e R s m args below meth c Z.heap.size Q h k n pcY Ls st) : G p l e R s m args below meth c Z.heap.size Q h k n pc Ls st := by
  obtain ⟨hx, hZ, hown, rfl, hml, hret, hnm, -⟩ := cx
  obtain ⟨o', d, ho, rfl, rfl⟩ := d
  intro T locs cells slots X N eT hk hn
  obtain ⟨s₂, o, st2, r⟩ := H T locs cells slots X N eT hk hn
  exact ⟨s₂, o, Jvm.Free.XS.goto X.here hx rfl (pc0 := pc) rfl d ho rfl st2, r⟩
theorem g_ifB {kx nx : Nat} (cx : Cx Z p s m meth c R kx nx own nm code maxL ret) {cd : ClassFile.Cond} {x : Int32} (d : Bi code pc (Instr.ifCond cd) pcY pcN) (HY : if_icmp.holds cd x 0 = true → G p l e R s m args below meth c Z.heap.size Q h k n pcY Ls st) (HN : if_icmp.holds cd x 0 = false → G p l e R s m args below meth c Z.heap.size Q h k n pcN Ls st) : G p l e R s m args below meth c Z.heap.size Q h k n pc Ls (.int x :: st) := by
  obtain ⟨hx, hZ, hown, rfl, hml, hret, hnm, -⟩ := cx
  obtain ⟨o', d, ho, rfl, rfl⟩ := d
  intro T locs cells slots X N eT hk hn
  cases hc : if_icmp.holds cd x 0
  · obtain ⟨s₂, o, st2, r⟩ := HN hc T locs cells slots X N eT hk hn
    exact ⟨s₂, o, Jvm.Free.XS.ifNo X.here hx rfl d rfl ((if0 _ _).trans hc) st2, r⟩
  · obtain ⟨s₂, o, st2, r⟩ := HY hc T locs cells slots X N eT hk hn
    exact ⟨s₂, o, Jvm.Free.XS.ifYes X.here hx rfl (pc0 := pc) rfl d rfl ((if0 _ _).trans hc) ho rfl st2, r⟩
theorem g_icmpB {kx nx : Nat} (cx : Cx Z p s m meth c R kx nx own nm code maxL ret) {cd : ClassFile.Cond} {x y : Int32} (d : Bi code pc (Instr.if_icmp cd) pcY pcN) (HY : if_icmp.holds cd x y = true → G p l e R s m args below meth c Z.heap.size Q h k n pcY Ls st) (HN : if_icmp.holds cd x y = false → G p l e R s m args below meth c Z.heap.size Q h k n pcN Ls st) : G p l e R s m args below meth c Z.heap.size Q h k n pc Ls (.int y :: .int x :: st) := by
  obtain ⟨hx, hZ, hown, rfl, hml, hret, hnm, -⟩ := cx
  obtain ⟨o', d, ho, rfl, rfl⟩ := d
  intro T locs cells slots X N eT hk hn
  cases hc : if_icmp.holds cd x y
  · obtain ⟨s₂, o, st2, r⟩ := HN hc T locs cells slots X N eT hk hn
    exact ⟨s₂, o, Jvm.Free.XS.icmpNo X.here hx rfl d rfl hc st2, r⟩
  · obtain ⟨s₂, o, st2, r⟩ := HY hc T locs cells slots X N eT hk hn
    exact ⟨s₂, o, Jvm.Free.XS.icmpYes X.here hx rfl (pc0 := pc) rfl d rfl hc ho rfl st2, r⟩
theorem h_eq {x y : Int32} : if_icmp.holds .eq x y = decide (x = y) := by by_cases h : x = y <;> simp [if_icmp.holds, h]
theorem h_ne {x y : Int32} : if_icmp.holds .ne x y = !decide (x = y) := by by_cases h : x = y <;> simp [if_icmp.holds, h]
theorem h_lt {x y : Int32} : if_icmp.holds .lt x y = decide (x < y) := by by_cases h : x < y <;> simp [if_icmp.holds, h]
theorem h_ge {x y : Int32} : if_icmp.holds .ge x y = !decide (x < y) := by by_cases h : x < y <;> simp [if_icmp.holds, h, Int32.not_le.mpr, Int32.not_lt.mp]
theorem h_gt {x y : Int32} : if_icmp.holds .gt x y = decide (y < x) := by by_cases h : y < x <;> simp [if_icmp.holds, h]
theorem h_le {x y : Int32} : if_icmp.holds .le x y = !decide (y < x) := by by_cases h : y < x <;> simp [if_icmp.holds, h, Int32.not_le.mpr, Int32.not_lt.mp]
theorem g_if_eq {kx nx : Nat} (cx : Cx Z p s m meth c R kx nx own nm code maxL ret) {x : Int32} (d : Bi code pc (Instr.ifCond .eq) pcY pcN) (HY : x = 0 → G p l e R s m args below meth c Z.heap.size Q h k n pcY Ls st) (HN : ¬ x = 0 → G p l e R s m args below meth c Z.heap.size Q h k n pcN Ls st) : G p l e R s m args below meth c Z.heap.size Q h k n pc Ls (.int x :: st) :=
  g_ifB cx d (fun q => HY (by rw [h_eq] at q; simpa using q)) (fun q => HN (by rw [h_eq] at q; simpa using q))
theorem g_icmp_eq {kx nx : Nat} (cx : Cx Z p s m meth c R kx nx own nm code maxL ret) {x y : Int32} (d : Bi code pc (Instr.if_icmp .eq) pcY pcN) (HY : x = y → G p l e R s m args below meth c Z.heap.size Q h k n pcY Ls st) (HN : ¬ x = y → G p l e R s m args below meth c Z.heap.size Q h k n pcN Ls st) : G p l e R s m args below meth c Z.heap.size Q h k n pc Ls (.int y :: .int x :: st) :=
  g_icmpB cx d (fun q => HY (by rw [h_eq] at q; simpa using q)) (fun q => HN (by rw [h_eq] at q; simpa using q))
theorem g_if_ne {kx nx : Nat} (cx : Cx Z p s m meth c R kx nx own nm code maxL ret) {x : Int32} (d : Bi code pc (Instr.ifCond .ne) pcY pcN) (HY : ¬ x = 0 → G p l e R s m args below meth c Z.heap.size Q h k n pcY Ls st) (HN : x = 0 → G p l e R s m args below meth c Z.heap.size Q h k n pcN Ls st) : G p l e R s m args below meth c Z.heap.size Q h k n pc Ls (.int x :: st) :=
  g_ifB cx d (fun q => HY (by rw [h_ne] at q; simpa using q)) (fun q => HN (by rw [h_ne] at q; simpa using q))
theorem g_icmp_ne {kx nx : Nat} (cx : Cx Z p s m meth c R kx nx own nm code maxL ret) {x y : Int32} (d : Bi code pc (Instr.if_icmp .ne) pcY pcN) (HY : ¬ x = y → G p l e R s m args below meth c Z.heap.size Q h k n pcY Ls st) (HN : x = y → G p l e R s m args below meth c Z.heap.size Q h k n pcN Ls st) : G p l e R s m args below meth c Z.heap.size Q h k n pc Ls (.int y :: .int x :: st) :=
  g_icmpB cx d (fun q => HY (by rw [h_ne] at q; simpa using q)) (fun q => HN (by rw [h_ne] at q; simpa using q))
theorem g_if_lt {kx nx : Nat} (cx : Cx Z p s m meth c R kx nx own nm code maxL ret) {x : Int32} (d : Bi code pc (Instr.ifCond .lt) pcY pcN) (HY : x < 0 → G p l e R s m args below meth c Z.heap.size Q h k n pcY Ls st) (HN : ¬ x < 0 → G p l e R s m args below meth c Z.heap.size Q h k n pcN Ls st) : G p l e R s m args below meth c Z.heap.size Q h k n pc Ls (.int x :: st) :=
  g_ifB cx d (fun q => HY (by rw [h_lt] at q; simpa using q)) (fun q => HN (by rw [h_lt] at q; simpa using q))
theorem g_icmp_lt {kx nx : Nat} (cx : Cx Z p s m meth c R kx nx own nm code maxL ret) {x y : Int32} (d : Bi code pc (Instr.if_icmp .lt) pcY pcN) (HY : x < y → G p l e R s m args below meth c Z.heap.size Q h k n pcY Ls st) (HN : ¬ x < y → G p l e R s m args below meth c Z.heap.size Q h k n pcN Ls st) : G p l e R s m args below meth c Z.heap.size Q h k n pc Ls (.int y :: .int x :: st) :=
  g_icmpB cx d (fun q => HY (by rw [h_lt] at q; simpa using q)) (fun q => HN (by rw [h_lt] at q; simpa using q))
theorem g_if_ge {kx nx : Nat} (cx : Cx Z p s m meth c R kx nx own nm code maxL ret) {x : Int32} (d : Bi code pc (Instr.ifCond .ge) pcY pcN) (HY : ¬ x < 0 → G p l e R s m args below meth c Z.heap.size Q h k n pcY Ls st) (HN : x < 0 → G p l e R s m args below meth c Z.heap.size Q h k n pcN Ls st) : G p l e R s m args below meth c Z.heap.size Q h k n pc Ls (.int x :: st) :=
  g_ifB cx d (fun q => HY (by rw [h_ge] at q; simpa using q)) (fun q => HN (by rw [h_ge] at q; simpa using q))
theorem g_icmp_ge {kx nx : Nat} (cx : Cx Z p s m meth c R kx nx own nm code maxL ret) {x y : Int32} (d : Bi code pc (Instr.if_icmp .ge) pcY pcN) (HY : ¬ x < y → G p l e R s m args below meth c Z.heap.size Q h k n pcY Ls st) (HN : x < y → G p l e R s m args below meth c Z.heap.size Q h k n pcN Ls st) : G p l e R s m args below meth c Z.heap.size Q h k n pc Ls (.int y :: .int x :: st) :=
  g_icmpB cx d (fun q => HY (by rw [h_ge] at q; simpa using q)) (fun q => HN (by rw [h_ge] at q; simpa using q))
theorem g_if_gt {kx nx : Nat} (cx : Cx Z p s m meth c R kx nx own nm code maxL ret) {x : Int32} (d : Bi code pc (Instr.ifCond .gt) pcY pcN) (HY : 0 < x → G p l e R s m args below meth c Z.heap.size Q h k n pcY Ls st) (HN : ¬ 0 < x → G p l e R s m args below meth c Z.heap.size Q h k n pcN Ls st) : G p l e R s m args below meth c Z.heap.size Q h k n pc Ls (.int x :: st) :=
  g_ifB cx d (fun q => HY (by rw [h_gt] at q; simpa using q)) (fun q => HN (by rw [h_gt] at q; simpa using q))
theorem g_icmp_gt {kx nx : Nat} (cx : Cx Z p s m meth c R kx nx own nm code maxL ret) {x y : Int32} (d : Bi code pc (Instr.if_icmp .gt) pcY pcN) (HY : y < x → G p l e R s m args below meth c Z.heap.size Q h k n pcY Ls st) (HN : ¬ y < x → G p l e R s m args below meth c Z.heap.size Q h k n pcN Ls st) : G p l e R s m args below meth c Z.heap.size Q h k n pc Ls (.int y :: .int x :: st) :=
  g_icmpB cx d (fun q => HY (by rw [h_gt] at q; simpa using q)) (fun q => HN (by rw [h_gt] at q; simpa using q))
theorem g_if_le {kx nx : Nat} (cx : Cx Z p s m meth c R kx nx own nm code maxL ret) {x : Int32} (d : Bi code pc (Instr.ifCond .le) pcY pcN) (HY : ¬ 0 < x → G p l e R s m args below meth c Z.heap.size Q h k n pcY Ls st) (HN : 0 < x → G p l e R s m args below meth c Z.heap.size Q h k n pcN Ls st) : G p l e R s m args below meth c Z.heap.size Q h k n pc Ls (.int x :: st) :=
  g_ifB cx d (fun q => HY (by rw [h_le] at q; simpa using q)) (fun q => HN (by rw [h_le] at q; simpa using q))
theorem g_icmp_le {kx nx : Nat} (cx : Cx Z p s m meth c R kx nx own nm code maxL ret) {x y : Int32} (d : Bi code pc (Instr.if_icmp .le) pcY pcN) (HY : ¬ y < x → G p l e R s m args below meth c Z.heap.size Q h k n pcY Ls st) (HN : y < x → G p l e R s m args below meth c Z.heap.size Q h k n pcN Ls st) : G p l e R s m args below meth c Z.heap.size Q h k n pc Ls (.int y :: .int x :: st) :=
  g_icmpB cx d (fun q => HY (by rw [h_le] at q; simpa using q)) (fun q => HN (by rw [h_le] at q; simpa using q))
theorem g_lcmp {kx nx : Nat} (cx : Cx Z p s m meth c R kx nx own nm code maxL ret) {x y : Int64} (d : Dc code pc .lcmp 1 pc') (H : G p l e R s m args below meth c Z.heap.size Q h k n pc' Ls (.int (lcmpW x y) :: st)) : G p l e R s m args below meth c Z.heap.size Q h k n pc Ls (.long y :: .long x :: st) := by
  obtain ⟨hx, hZ, hown, rfl, hml, hret, hnm, -⟩ := cx
  obtain ⟨d, rfl⟩ := d
  intro T locs cells slots X N eT hk hn
  obtain ⟨s₂, o, st2, r⟩ := H T locs cells slots X N eT hk hn
  exact ⟨s₂, o, Jvm.Free.XS.lcmp X.here hx rfl d rfl st2, r⟩
theorem g_lif_eq {kx nx : Nat} (cx : Cx Z p s m meth c R kx nx own nm code maxL ret) {x y : Int64} (d0 : Dc code pc .lcmp 1 pc') (d : Bi code pc' (Instr.ifCond .eq) pcY pcN) (HY : x = y → G p l e R s m args below meth c Z.heap.size Q h k n pcY Ls st) (HN : ¬ x = y → G p l e R s m args below meth c Z.heap.size Q h k n pcN Ls st) : G p l e R s m args below meth c Z.heap.size Q h k n pc Ls (.long y :: .long x :: st) :=
  g_lcmp cx d0 (g_if_eq cx d (fun q => HY ((lw_eq x y).mp q)) (fun q => HN (fun z => q ((lw_eq x y).mpr z))))
theorem g_lif_ne {kx nx : Nat} (cx : Cx Z p s m meth c R kx nx own nm code maxL ret) {x y : Int64} (d0 : Dc code pc .lcmp 1 pc') (d : Bi code pc' (Instr.ifCond .ne) pcY pcN) (HY : ¬ x = y → G p l e R s m args below meth c Z.heap.size Q h k n pcY Ls st) (HN : x = y → G p l e R s m args below meth c Z.heap.size Q h k n pcN Ls st) : G p l e R s m args below meth c Z.heap.size Q h k n pc Ls (.long y :: .long x :: st) :=
  g_lcmp cx d0 (g_if_ne cx d (fun q => HY (fun z => q ((lw_eq x y).mpr z))) (fun q => HN ((lw_eq x y).mp q)))
theorem g_lif_lt {kx nx : Nat} (cx : Cx Z p s m meth c R kx nx own nm code maxL ret) {x y : Int64} (d0 : Dc code pc .lcmp 1 pc') (d : Bi code pc' (Instr.ifCond .lt) pcY pcN) (HY : x < y → G p l e R s m args below meth c Z.heap.size Q h k n pcY Ls st) (HN : ¬ x < y → G p l e R s m args below meth c Z.heap.size Q h k n pcN Ls st) : G p l e R s m args below meth c Z.heap.size Q h k n pc Ls (.long y :: .long x :: st) :=
  g_lcmp cx d0 (g_if_lt cx d (fun q => HY ((lw_lt x y).mp q)) (fun q => HN (fun z => q ((lw_lt x y).mpr z))))
theorem g_lif_ge {kx nx : Nat} (cx : Cx Z p s m meth c R kx nx own nm code maxL ret) {x y : Int64} (d0 : Dc code pc .lcmp 1 pc') (d : Bi code pc' (Instr.ifCond .ge) pcY pcN) (HY : ¬ x < y → G p l e R s m args below meth c Z.heap.size Q h k n pcY Ls st) (HN : x < y → G p l e R s m args below meth c Z.heap.size Q h k n pcN Ls st) : G p l e R s m args below meth c Z.heap.size Q h k n pc Ls (.long y :: .long x :: st) :=
  g_lcmp cx d0 (g_if_ge cx d (fun q => HY (fun z => q ((lw_lt x y).mpr z))) (fun q => HN ((lw_lt x y).mp q)))
theorem g_lif_gt {kx nx : Nat} (cx : Cx Z p s m meth c R kx nx own nm code maxL ret) {x y : Int64} (d0 : Dc code pc .lcmp 1 pc') (d : Bi code pc' (Instr.ifCond .gt) pcY pcN) (HY : y < x → G p l e R s m args below meth c Z.heap.size Q h k n pcY Ls st) (HN : ¬ y < x → G p l e R s m args below meth c Z.heap.size Q h k n pcN Ls st) : G p l e R s m args below meth c Z.heap.size Q h k n pc Ls (.long y :: .long x :: st) :=
  g_lcmp cx d0 (g_if_gt cx d (fun q => HY ((lw_gt x y).mp q)) (fun q => HN (fun z => q ((lw_gt x y).mpr z))))
theorem g_lif_le {kx nx : Nat} (cx : Cx Z p s m meth c R kx nx own nm code maxL ret) {x y : Int64} (d0 : Dc code pc .lcmp 1 pc') (d : Bi code pc' (Instr.ifCond .le) pcY pcN) (HY : ¬ y < x → G p l e R s m args below meth c Z.heap.size Q h k n pcY Ls st) (HN : y < x → G p l e R s m args below meth c Z.heap.size Q h k n pcN Ls st) : G p l e R s m args below meth c Z.heap.size Q h k n pc Ls (.long y :: .long x :: st) :=
  g_lcmp cx d0 (g_if_le cx d (fun q => HY (fun z => q ((lw_gt x y).mpr z))) (fun q => HN ((lw_gt x y).mp q)))
theorem g_acmp {kx nx : Nat} (cx : Cx Z p s m meth c R kx nx own nm code maxL ret) {cd : ACond} {x y : Value} (h1 : x.isRef = true) (h2 : y.isRef = true) (d : Bi code pc (Instr.if_acmp cd) pcY pcN) (HY : x = y → G p l e R s m args below meth c Z.heap.size Q h k n (if acV cd true = true then pcY else pcN) Ls st) (HN : ¬ x = y → G p l e R s m args below meth c Z.heap.size Q h k n (if acV cd false = true then pcY else pcN) Ls st) : G p l e R s m args below meth c Z.heap.size Q h k n pc Ls (y :: x :: st) := by
  obtain ⟨hx, hZ, hown, rfl, hml, hret, hnm, -⟩ := cx
  obtain ⟨o', d, ho, rfl, rfl⟩ := d
  intro T locs cells slots X N eT hk hn
  by_cases hc : x = y
  · obtain ⟨s₂, o, st2, r⟩ := HY hc T locs cells slots X N eT hk hn
    exact ⟨s₂, o, Jvm.RoadKit.acmp (g := mkF m pc Ls (y :: x :: st)) X hx rfl h1 h2 (pc0 := pc) (same := true) rfl d rfl (decide_eq_true hc) ho rfl st2, r⟩
  · obtain ⟨s₂, o, st2, r⟩ := HN hc T locs cells slots X N eT hk hn
    exact ⟨s₂, o, Jvm.RoadKit.acmp (g := mkF m pc Ls (y :: x :: st)) X hx rfl h1 h2 (pc0 := pc) (same := false) rfl d rfl (decide_eq_false hc) ho rfl st2, r⟩
theorem g_acmp_eq {kx nx : Nat} (cx : Cx Z p s m meth c R kx nx own nm code maxL ret) {x y : Value} (h1 : x.isRef = true) (h2 : y.isRef = true) (d : Bi code pc (Instr.if_acmp .eq) pcY pcN) (HY : x = y → G p l e R s m args below meth c Z.heap.size Q h k n pcY Ls st) (HN : ¬ x = y → G p l e R s m args below meth c Z.heap.size Q h k n pcN Ls st) : G p l e R s m args below meth c Z.heap.size Q h k n pc Ls (y :: x :: st) := g_acmp cx h1 h2 d HY HN
theorem g_acmp_ne {kx nx : Nat} (cx : Cx Z p s m meth c R kx nx own nm code maxL ret) {x y : Value} (h1 : x.isRef = true) (h2 : y.isRef = true) (d : Bi code pc (Instr.if_acmp .ne) pcY pcN) (HY : ¬ x = y → G p l e R s m args below meth c Z.heap.size Q h k n pcY Ls st) (HN : x = y → G p l e R s m args below meth c Z.heap.size Q h k n pcN Ls st) : G p l e R s m args below meth c Z.heap.size Q h k n pc Ls (y :: x :: st) := g_acmp cx h1 h2 d HN HY
theorem g_ifnull_null {kx nx : Nat} (cx : Cx Z p s m meth c R kx nx own nm code maxL ret) (d : Bi code pc Instr.ifnull pcY pcN) (H : G p l e R s m args below meth c Z.heap.size Q h k n pcY Ls st) : G p l e R s m args below meth c Z.heap.size Q h k n pc Ls (.null :: st) := by
  obtain ⟨hx, hZ, hown, rfl, hml, hret, hnm, -⟩ := cx
  obtain ⟨o', d, ho, rfl, rfl⟩ := d
  intro T locs cells slots X N eT hk hn
  obtain ⟨s₂, o, st2, r⟩ := H T locs cells slots X N eT hk hn
  exact ⟨s₂, o, Jvm.Free.XS.ifnullYes X.here hx rfl (pc0 := pc) rfl d rfl ho rfl st2, r⟩
theorem g_ifnull_ref {kx nx : Nat} (cx : Cx Z p s m meth c R kx nx own nm code maxL ret) {a : Addr} (d : Bi code pc Instr.ifnull pcY pcN) (H : G p l e R s m args below meth c Z.heap.size Q h k n pcN Ls st) : G p l e R s m args below meth c Z.heap.size Q h k n pc Ls (.ref a :: st) := by
  obtain ⟨hx, hZ, hown, rfl, hml, hret, hnm, -⟩ := cx
  obtain ⟨o', d, ho, rfl, rfl⟩ := d
  intro T locs cells slots X N eT hk hn
  obtain ⟨s₂, o, st2, r⟩ := H T locs cells slots X N eT hk hn
  exact ⟨s₂, o, Jvm.Free.XS.ifnullNo X.here hx rfl d rfl st2, r⟩
theorem g_ifnonnull_ref {kx nx : Nat} (cx : Cx Z p s m meth c R kx nx own nm code maxL ret) {a : Addr} (d : Bi code pc Instr.ifnonnull pcY pcN) (H : G p l e R s m args below meth c Z.heap.size Q h k n pcY Ls st) : G p l e R s m args below meth c Z.heap.size Q h k n pc Ls (.ref a :: st) := by
  obtain ⟨hx, hZ, hown, rfl, hml, hret, hnm, -⟩ := cx
  obtain ⟨o', d, ho, rfl, rfl⟩ := d
  intro T locs cells slots X N eT hk hn
  obtain ⟨s₂, o, st2, r⟩ := H T locs cells slots X N eT hk hn
  exact ⟨s₂, o, Jvm.Free.XS.ifnonnullYes X.here hx rfl (pc0 := pc) rfl d rfl ho rfl st2, r⟩
theorem g_ifnonnull_null {kx nx : Nat} (cx : Cx Z p s m meth c R kx nx own nm code maxL ret) (d : Bi code pc Instr.ifnonnull pcY pcN) (H : G p l e R s m args below meth c Z.heap.size Q h k n pcN Ls st) : G p l e R s m args below meth c Z.heap.size Q h k n pc Ls (.null :: st) := by
  obtain ⟨hx, hZ, hown, rfl, hml, hret, hnm, -⟩ := cx
  obtain ⟨o', d, ho, rfl, rfl⟩ := d
  intro T locs cells slots X N eT hk hn
  obtain ⟨s₂, o, st2, r⟩ := H T locs cells slots X N eT hk hn
  exact ⟨s₂, o, Jvm.Free.XS.ifnonnullNo X.here hx rfl d rfl st2, r⟩
theorem g_ldcI {kx nx : Nat} (cx : Cx Z p s m meth c R kx nx own nm code maxL ret) {i : Nat} {v : Int32} (d : Dc code pc (.ldc i) 2 pc') (w : (Jvm.Cond.constant own i v).before a0 Z = true) (H : G p l e R s m args below meth c Z.heap.size Q h k n pc' Ls (.int v :: st)) : G p l e R s m args below meth c Z.heap.size Q h k n pc Ls st := by
  obtain ⟨hx, hZ, hown, rfl, hml, hret, hnm, -⟩ := cx
  obtain ⟨d, rfl⟩ := d
  intro T locs cells slots X N eT hk hn
  obtain ⟨s₂, o, st2, r⟩ := H T locs cells slots X N eT hk hn
  exact ⟨s₂, o, X.ldcInt hx hown (mvT hZ w) (g := mkF m pc Ls st) rfl d _ st2, r⟩
theorem g_ldcJ {kx nx : Nat} (cx : Cx Z p s m meth c R kx nx own nm code maxL ret) {i : Nat} {v : Int64} (d : Dc code pc (.ldc2_w i) 3 pc') (w : (Jvm.Cond.constantLong own i v).before a0 Z = true) (H : G p l e R s m args below meth c Z.heap.size Q h k n pc' Ls (.long v :: st)) : G p l e R s m args below meth c Z.heap.size Q h k n pc Ls st := by
  obtain ⟨hx, hZ, hown, rfl, hml, hret, hnm, -⟩ := cx
  obtain ⟨d, rfl⟩ := d
  intro T locs cells slots X N eT hk hn
  obtain ⟨s₂, o, st2, r⟩ := H T locs cells slots X N eT hk hn
  exact ⟨s₂, o, X.ldc2Long hx hown (mvT hZ w) (g := mkF m pc Ls st) rfl d _ st2, r⟩
theorem g_getF {kx nx : Nat} (cx : Cx Z p s m meth c R kx nx own nm code maxL ret) {R0 O f ds host : String} {i : Nat} {a : Addr} {v : Value} (d : Dc code pc (.getfield i) 3 pc') (w : (Jvm.Cond.fieldLink own i R0 f ds).before a0 Z = true ∨ (Jvm.Cond.fieldLinkNest own i R0 f ds host).before a0 Z = true) (via : Via Z R0 O f ds) (F : Fld Z h a O f ds v) (H : G p l e R s m args below meth c Z.heap.size Q h k n pc' Ls (v :: st)) : G p l e R s m args below meth c Z.heap.size Q h k n pc Ls (.ref a :: st) := by
  obtain ⟨hx, hZ, hown, rfl, hml, hret, hnm, -⟩ := cx
  obtain ⟨d, rfl⟩ := d
  intro T locs cells slots X N eT hk hn
  obtain ⟨T', X', e', stp⟩ := getF X hx hZ hown w via eT F (g := mkF m pc Ls (.ref a :: st)) rfl rfl d
  obtain ⟨s₂, o, st2, r⟩ := H T' locs cells slots X' N e' hk hn
  exact ⟨s₂, o, stp _ st2, r⟩
theorem g_getS {kx nx : Nat} (cx : Cx Z p s m meth c R kx nx own nm code maxL ret) {R0 O f ds host : String} {i : Nat} {v : Value} (d : Dc code pc (.getstatic i) 3 pc') (w : (Jvm.Cond.fieldLink own i R0 f ds).before a0 Z = true ∨ (Jvm.Cond.fieldLinkNest own i R0 f ds host).before a0 Z = true) (via : Via Z R0 O f ds) (F : Sta Z h O f ds v) (H : G p l e R s m args below meth c Z.heap.size Q h k n pc' Ls (v :: st)) : G p l e R s m args below meth c Z.heap.size Q h k n pc Ls st := by
  obtain ⟨hx, hZ, hown, rfl, hml, hret, hnm, -⟩ := cx
  obtain ⟨d, rfl⟩ := d
  intro T locs cells slots X N eT hk hn
  obtain ⟨T', X', e', stp⟩ := getS2 X hx hZ hown w via eT F (g := mkF m pc Ls st) rfl d
  obtain ⟨s₂, o, st2, r⟩ := H T' locs cells slots X' N e' hk hn
  exact ⟨s₂, o, stp _ st2, r⟩
theorem g_putF {kx nx : Nat} (cx : Cx Z p s m meth c R kx nx own nm code maxL ret) {R0 O f ds host C : String} {i kk : Nat} {ty : FieldType} {a : Addr} {v old : Value} (d : Dc code pc (.putfield i) 3 pc') (w : (Jvm.Cond.fieldLink own i R0 f ds).before a0 Z = true ∨ (Jvm.Cond.fieldLinkNest own i R0 f ds host).before a0 Z = true) (via : Via Z R0 O f ds) (F : Fld Z h a O f ds old) (E : Exa Z h a C)
    (L : (Jvm.Cond.lays C O f ds).before a0 Z = true ∨ ((Jvm.Cond.laysFinal C O f ds).before a0 Z = true ∧ own = O ∧ nm = "<init>")) (wi : (Jvm.Cond.instantiable C kk).before a0 Z = true) (hty : parseFieldDescriptor ds = some ty) (hnar : narrow ty v = v) (hfit : fits ty v = true) (g : Z.heap.size ≤ a)
    (H : ∀ h', Wr h h' a (Jvm.RoadKit.slotOf Z O f ds) v → G p l e R s m args below meth c Z.heap.size Q h' k n pc' Ls st) : G p l e R s m args below meth c Z.heap.size Q h k n pc Ls (v :: .ref a :: st) := by
  obtain ⟨hx, hZ, hown, rfl, hml, hret, rfl, -⟩ := cx
  obtain ⟨d, rfl⟩ := d
  intro T locs cells slots X N eT hk hn
  obtain ⟨T', h', X', e', W, stp⟩ := putF X hx hZ hown w via eT F E L wi hty hnar hfit (g := mkF m pc Ls (v :: .ref a :: st)) rfl rfl d
  obtain ⟨s₂, o, st2, r⟩ := H h' W T' _ cells slots X' (Fr.snoc X' N g) e' hk hn
  exact ⟨s₂, o, stp _ st2, r⟩
theorem g_putFN {kx nx : Nat} (cx : Cx Z p s m meth c R kx nx own nm code maxL ret) {R0 O f ds C : String} {i kk : Nat} {ty : FieldType} {a : Addr} {v v' old : Value} (d : Dc code pc (.putfield i) 3 pc') (w : (Jvm.Cond.fieldLink own i R0 f ds).before a0 Z = true) (via : Via Z R0 O f ds) (F : Fld Z h a O f ds old) (E : Exa Z h a C)
    (L : (Jvm.Cond.lays C O f ds).before a0 Z = true ∨ ((Jvm.Cond.laysFinal C O f ds).before a0 Z = true ∧ own = O ∧ nm = "<init>")) (wi : (Jvm.Cond.instantiable C kk).before a0 Z = true) (hty : parseFieldDescriptor ds = some ty) (hnar : narrow ty v = v') (hfit : fits ty v' = true) (g : Z.heap.size ≤ a)
    (H : ∀ h', Wr h h' a (Jvm.RoadKit.slotOf Z O f ds) v' → G p l e R s m args below meth c Z.heap.size Q h' k n pc' Ls st) : G p l e R s m args below meth c Z.heap.size Q h k n pc Ls (v :: .ref a :: st) := by
  obtain ⟨hx, hZ, hown, rfl, hml, hret, rfl, -⟩ := cx
  obtain ⟨d, rfl⟩ := d
  intro T locs cells slots X N eT hk hn
  obtain ⟨T', h', X', e', W, stp⟩ := putFN X hx hZ hown w via eT F E L wi hty hnar hfit (g := mkF m pc Ls (v :: .ref a :: st)) rfl rfl d
  obtain ⟨s₂, o, st2, r⟩ := H h' W T' _ cells slots X' (Fr.snoc X' N g) e' hk hn
  exact ⟨s₂, o, stp _ st2, r⟩
theorem g_new {kx nx : Nat} (cx : Cx Z p s m meth c R kx nx own nm code maxL ret) {C : String} {i sl : Nat} {k' n' : Nat} (d : Dc code pc (.new i) 3 pc') (w : (Jvm.Cond.classLink own i C).before a0 Z = true) (wi : (Jvm.Cond.instantiable C sl).before a0 Z = true) (wz : (Jvm.Cond.initialized C).before a0 Z = true) (hk1 : k + 1 = k') (hn1 : n + sl = n') (hkR : k' ≤ R.cells) (hnR : n' ≤ R.slots)
    (H : ∀ h' b, b = h.size → Ext h h' → Exa Z h' b C → (∀ {O nm d : String} {ty : FieldType}, Laid Z a0 C O nm d → parseFieldDescriptor d = some ty → Fld Z h' b O nm d (defaultValue ty)) → G p l e R s m args below meth c Z.heap.size Q h' k' n' pc' Ls (.ref b :: st)) : G p l e R s m args below meth c Z.heap.size Q h k n pc Ls st := by
  obtain ⟨hx, hZ, hown, rfl, hml, hret, hnm, -⟩ := cx
  obtain ⟨d, rfl⟩ := d
  subst hk1 hn1
  intro T locs cells slots X N eT hk hn
  obtain ⟨T', h', X', e', E, A, D, -, stp⟩ := newO X hx hZ hown w wi wz eT (g := mkF m pc Ls st) rfl d (by omega) (by omega)
  obtain ⟨s₂, o, st2, r⟩ := H h' _ rfl E A D T' locs _ _ X' N e' (by omega) (by omega)
  exact ⟨s₂, o, stp _ st2, r⟩
theorem g_newarray {kx nx : Nat} (cx : Cx Z p s m meth c R kx nx own nm code maxL ret) {aty : ArrayType} {z : Int32} {cap k' n' : Nat} {ad : String} (had : "[" ++ (newarray.typeOf aty).toString = ad) (d : Dc code pc (.newarray aty) 2 pc') (w : (Jvm.Cond.arrayClass (newarray.typeOf aty)).before a0 Z = true) (hz : ¬ z < 0) (hcap : z.toNatClampNeg ≤ cap) (hb : cap * 8 ≤ 536870912) (hk1 : k + 1 = k') (hn1 : n + cap = n') (hkR : k' ≤ R.cells) (hnR : n' ≤ R.slots)
    (H : ∀ h' b cA, b = h.size → Ext h h' → Arx Z h' b cA (newarray.typeOf aty) z [] (defaultValue (newarray.typeOf aty)) ad → G p l e R s m args below meth c Z.heap.size Q h' k' n' pc' Ls (.ref b :: st)) : G p l e R s m args below meth c Z.heap.size Q h k n pc Ls (.int z :: st) := by
  obtain ⟨hx, hZ, hown, rfl, hml, hret, hnm, -⟩ := cx
  obtain ⟨d, rfl⟩ := d
  subst hk1 hn1
  intro T locs cells slots X N eT hk hn
  obtain ⟨T', h', cA, X', e', E, A, Ex, stp⟩ := newPE X hx hZ w eT (g := mkF m pc Ls (.int z :: st)) rfl d rfl hz hcap hb (by omega) (by omega) had
  obtain ⟨s₂, o, st2, r⟩ := H h' _ cA rfl E ⟨Arv.new A hz, Ex⟩ T' locs _ _ X' N e' (by omega) (by omega)
  exact ⟨s₂, o, stp _ st2, r⟩
theorem g_anewarray {kx nx : Nat} (cx : Cx Z p s m meth c R kx nx own nm code maxL ret) {C ad : String} {i : Nat} {z : Int32} {cap k' n' : Nat} (had : "[" ++ (FieldType.object C).toString = ad) (d : Dc code pc (.anewarray i) 3 pc') (w1 : (Jvm.Cond.classLink own i C).before a0 Z = true) (w2 : (Jvm.Cond.arrayOver (.object C)).before a0 Z = true) (hz : ¬ z < 0) (hcap : z.toNatClampNeg ≤ cap) (hb : cap * 8 ≤ 536870912) (hk1 : k + 1 = k') (hn1 : n + cap = n') (hkR : k' ≤ R.cells) (hnR : n' ≤ R.slots)
    (H : ∀ h' b cA, b = h.size → Ext h h' → Arx Z h' b cA (.object C) z [] .null ad → Ovr Z cA C → G p l e R s m args below meth c Z.heap.size Q h' k' n' pc' Ls (.ref b :: st)) : G p l e R s m args below meth c Z.heap.size Q h k n pc Ls (.int z :: st) := by
  obtain ⟨hx, hZ, hown, rfl, hml, hret, hnm, -⟩ := cx
  obtain ⟨d, rfl⟩ := d
  subst hk1 hn1
  intro T locs cells slots X N eT hk hn
  obtain ⟨T', h', cA, X', e', E, A, Ex, O, stp⟩ := newRE X hx hZ hown w1 w2 eT (g := mkF m pc Ls (.int z :: st)) rfl d rfl hz hcap hb (by omega) (by omega) had
  obtain ⟨s₂, o, st2, r⟩ := H h' _ cA rfl E ⟨Arv.new A hz, Ex⟩ O T' locs _ _ X' N e' (by omega) (by omega)
  exact ⟨s₂, o, stp _ st2, r⟩
theorem g_anewarrayA {kx nx : Nat} (cx : Cx Z p s m meth c R kx nx own nm code maxL ret) {C ad : String} {t : FieldType} {i : Nat} {z : Int32} {cap k' n' : Nat} (hC : (FieldType.array t).toString = C) (had : "[" ++ C = ad) (d : Dc code pc (.anewarray i) 3 pc') (w1 : (Jvm.Cond.classLink own i C).before a0 Z = true) (w2 : (Jvm.Cond.arrayOver (.array t)).before a0 Z = true) (hz : ¬ z < 0) (hcap : z.toNatClampNeg ≤ cap) (hb : cap * 8 ≤ 536870912) (hk1 : k + 1 = k') (hn1 : n + cap = n') (hkR : k' ≤ R.cells) (hnR : n' ≤ R.slots)
    (H : ∀ h' b cA, b = h.size → Ext h h' → Arx Z h' b cA (.array t) z [] .null ad → OvrA Z cA t C → G p l e R s m args below meth c Z.heap.size Q h' k' n' pc' Ls (.ref b :: st)) : G p l e R s m args below meth c Z.heap.size Q h k n pc Ls (.int z :: st) := by
  obtain ⟨hx, hZ, hown, rfl, hml, hret, hnm, -⟩ := cx
  obtain ⟨d, rfl⟩ := d
  subst hk1 hn1
  intro T locs cells slots X N eT hk hn
  obtain ⟨T', h', cA, X', e', E, A, Ex, O, stp⟩ := newRA X hx hZ hown hC w1 w2 eT (g := mkF m pc Ls (.int z :: st)) rfl d rfl hz hcap hb (by omega) (by omega) had
  obtain ⟨s₂, o, st2, r⟩ := H h' _ cA rfl E ⟨Arv.new A hz, Ex⟩ O T' locs _ _ X' N e' (by omega) (by omega)
  exact ⟨s₂, o, stp _ st2, r⟩
theorem g_iastore {kx nx : Nat} (cx : Cx Z p s m meth c R kx nx own nm code maxL ret) {a : Addr} {cA : ClassId} {z j : Int32} {ad : String} {vs : List Value} {dv : Value} {x : Int32} (d : Dc code pc .iastore 1 pc') (A : Arx Z h a cA .int z vs dv ad) (hj : ¬ j < 0 ∧ j < z) (hl : j.toNatClampNeg < vs.length) (g : Z.heap.size ≤ a) (H : ∀ h', Wr h h' a j.toNatClampNeg (.int x) → Arx Z h' a cA .int z (vs.set j.toNatClampNeg (.int x)) dv ad → G p l e R s m args below meth c Z.heap.size Q h' k n pc' Ls st) : G p l e R s m args below meth c Z.heap.size Q h k n pc Ls (.int x :: .int j :: .ref a :: st) := by
  obtain ⟨hx, hZ, hown, rfl, hml, hret, hnm, -⟩ := cx
  obtain ⟨d, rfl⟩ := d
  intro T locs cells slots X N eT hk hn
  obtain ⟨⟨cl, Ar, q, S, Nz, Hs, Gf⟩, Ex⟩ := A
  obtain ⟨T', h', X', e', W, stp⟩ := stI X hx hZ eT Ar (j := j) (inb_of S hj) (g := mkF m pc Ls (.int x :: .int j :: .ref a :: st)) rfl rfl d
  obtain ⟨s₂, o, st2, r⟩ := H h' W ⟨Arv.set Ar q S Nz Hs Gf rfl W _ rfl hl, Ex.wr W⟩ T' _ cells slots X' (Fr.snoc X' N g) e' hk hn
  exact ⟨s₂, o, stp _ st2, r⟩
theorem g_lastore {kx nx : Nat} (cx : Cx Z p s m meth c R kx nx own nm code maxL ret) {a : Addr} {cA : ClassId} {z j : Int32} {ad : String} {vs : List Value} {dv : Value} {x : Int64} (d : Dc code pc .lastore 1 pc') (A : Arx Z h a cA .long z vs dv ad) (hj : ¬ j < 0 ∧ j < z) (hl : j.toNatClampNeg < vs.length) (g : Z.heap.size ≤ a) (H : ∀ h', Wr h h' a j.toNatClampNeg (.long x) → Arx Z h' a cA .long z (vs.set j.toNatClampNeg (.long x)) dv ad → G p l e R s m args below meth c Z.heap.size Q h' k n pc' Ls st) : G p l e R s m args below meth c Z.heap.size Q h k n pc Ls (.long x :: .int j :: .ref a :: st) := by
  obtain ⟨hx, hZ, hown, rfl, hml, hret, hnm, -⟩ := cx
  obtain ⟨d, rfl⟩ := d
  intro T locs cells slots X N eT hk hn
  obtain ⟨⟨cl, Ar, q, S, Nz, Hs, Gf⟩, Ex⟩ := A
  obtain ⟨T', h', X', e', W, stp⟩ := stJ X hx hZ eT Ar (j := j) (inb_of S hj) (g := mkF m pc Ls (.long x :: .int j :: .ref a :: st)) rfl rfl d
  obtain ⟨s₂, o, st2, r⟩ := H h' W ⟨Arv.set Ar q S Nz Hs Gf rfl W _ rfl hl, Ex.wr W⟩ T' _ cells slots X' (Fr.snoc X' N g) e' hk hn
  exact ⟨s₂, o, stp _ st2, r⟩
theorem g_castore {kx nx : Nat} (cx : Cx Z p s m meth c R kx nx own nm code maxL ret) {a : Addr} {cA : ClassId} {z j : Int32} {ad : String} {vs : List Value} {dv : Value} {x : Int32} (d : Dc code pc .castore 1 pc') (A : Arx Z h a cA .char z vs dv ad) (hj : ¬ j < 0 ∧ j < z) (hl : j.toNatClampNeg < vs.length) (g : Z.heap.size ≤ a) (H : ∀ h', Wr h h' a j.toNatClampNeg (.int (nar .char x)) → Arx Z h' a cA .char z (vs.set j.toNatClampNeg (.int (nar .char x))) dv ad → G p l e R s m args below meth c Z.heap.size Q h' k n pc' Ls st) : G p l e R s m args below meth c Z.heap.size Q h k n pc Ls (.int x :: .int j :: .ref a :: st) := by
  obtain ⟨hx, hZ, hown, rfl, hml, hret, hnm, -⟩ := cx
  obtain ⟨d, rfl⟩ := d
  intro T locs cells slots X N eT hk hn
  obtain ⟨⟨cl, Ar, q, S, Nz, Hs, Gf⟩, Ex⟩ := A
  obtain ⟨T', h', X', e', W, stp⟩ := stC X hx hZ eT Ar (j := j) (inb_of S hj) (g := mkF m pc Ls (.int x :: .int j :: .ref a :: st)) rfl rfl d
  obtain ⟨s₂, o, st2, r⟩ := H h' W ⟨Arv.set Ar q S Nz Hs Gf (fits_nar_char _) W _ rfl hl, Ex.wr W⟩ T' _ cells slots X' (Fr.snoc X' N g) e' hk hn
  exact ⟨s₂, o, stp _ st2, r⟩
theorem g_bastore {kx nx : Nat} (cx : Cx Z p s m meth c R kx nx own nm code maxL ret) {a : Addr} {cA : ClassId} {z j : Int32} {ad : String} {vs : List Value} {dv : Value} {x : Int32} (d : Dc code pc .bastore 1 pc') (A : Arx Z h a cA .byte z vs dv ad) (hj : ¬ j < 0 ∧ j < z) (hl : j.toNatClampNeg < vs.length) (g : Z.heap.size ≤ a) (H : ∀ h', Wr h h' a j.toNatClampNeg (.int (nar .byte x)) → Arx Z h' a cA .byte z (vs.set j.toNatClampNeg (.int (nar .byte x))) dv ad → G p l e R s m args below meth c Z.heap.size Q h' k n pc' Ls st) : G p l e R s m args below meth c Z.heap.size Q h k n pc Ls (.int x :: .int j :: .ref a :: st) := by
  obtain ⟨hx, hZ, hown, rfl, hml, hret, hnm, -⟩ := cx
  obtain ⟨d, rfl⟩ := d
  intro T locs cells slots X N eT hk hn
  obtain ⟨⟨cl, Ar, q, S, Nz, Hs, Gf⟩, Ex⟩ := A
  obtain ⟨T', h', X', e', W, stp⟩ := stB X hx hZ eT Ar (j := j) (inb_of S hj) (g := mkF m pc Ls (.int x :: .int j :: .ref a :: st)) rfl rfl d
  obtain ⟨s₂, o, st2, r⟩ := H h' W ⟨Arv.set Ar q S Nz Hs Gf (fits_nar_byte _) W _ rfl hl, Ex.wr W⟩ T' _ cells slots X' (Fr.snoc X' N g) e' hk hn
  exact ⟨s₂, o, stp _ st2, r⟩
theorem g_aastore {kx nx : Nat} (cx : Cx Z p s m meth c R kx nx own nm code maxL ret) {a : Addr} {cA : ClassId} {z j : Int32} {ad : String} {vs : List Value} {dv v : Value} {ty : FieldType} (d : Dc code pc .aastore 1 pc') (A : Arx Z h a cA ty z vs dv ad) (hty : ty.isReference = true) (hf : fits ty v = true) (So : Sto Z h a v) (hj : ¬ j < 0 ∧ j < z) (hl : j.toNatClampNeg < vs.length) (g : Z.heap.size ≤ a) (H : ∀ h', Wr h h' a j.toNatClampNeg v → Arx Z h' a cA ty z (vs.set j.toNatClampNeg v) dv ad → G p l e R s m args below meth c Z.heap.size Q h' k n pc' Ls st) : G p l e R s m args below meth c Z.heap.size Q h k n pc Ls (v :: .int j :: .ref a :: st) := by
  obtain ⟨hx, hZ, hown, rfl, hml, hret, hnm, -⟩ := cx
  obtain ⟨d, rfl⟩ := d
  intro T locs cells slots X N eT hk hn
  obtain ⟨⟨cl, Ar, q, S, Nz, Hs, Gf⟩, Ex⟩ := A
  obtain ⟨T', h', X', e', W, stp⟩ := stR X hx hZ eT Ar (j := j) (inb_of S hj) hty So (g := mkF m pc Ls (v :: .int j :: .ref a :: st)) rfl rfl d
  obtain ⟨s₂, o, st2, r⟩ := H h' W ⟨Arv.set Ar q S Nz Hs Gf hf W _ rfl hl, Ex.wr W⟩ T' _ cells slots X' (Fr.snoc X' N g) e' hk hn
  exact ⟨s₂, o, stp _ st2, r⟩
theorem g_iaload {kx nx : Nat} (cx : Cx Z p s m meth c R kx nx own nm code maxL ret) {a : Addr} {cA : ClassId} {z j : Int32} {vs : List Value} {dv v : Value} (d : Dc code pc .iaload 1 pc') (A : Arv Z h a cA .int z vs dv) (hj : ¬ j < 0 ∧ j < z) (hv : vs.getD j.toNatClampNeg dv = v) (H : G p l e R s m args below meth c Z.heap.size Q h k n pc' Ls (v :: st)) : G p l e R s m args below meth c Z.heap.size Q h k n pc Ls (.int j :: .ref a :: st) := by
  obtain ⟨hx, hZ, hown, rfl, hml, hret, hnm, -⟩ := cx
  obtain ⟨d, rfl⟩ := d
  intro T locs cells slots X N eT hk hn
  obtain ⟨cl, Ar, q, S, Nz, Hs, Gf⟩ := A
  obtain ⟨s₂, o, st2, r⟩ := H T _ cells slots X N eT hk hn
  exact ⟨s₂, o, X.iaload hx (j := j) (v := v) (by rw [eT]; exact Ar.1) (State.isArrayOf_alike hZ.alike Ar.2.1) Ar.2.2 (inb_of S hj) (Hs.at (inb_of S hj) hv) (g := mkF m pc Ls (.int j :: .ref a :: st)) rfl rfl d _ st2, r⟩
theorem g_laload {kx nx : Nat} (cx : Cx Z p s m meth c R kx nx own nm code maxL ret) {a : Addr} {cA : ClassId} {z j : Int32} {vs : List Value} {dv v : Value} (d : Dc code pc .laload 1 pc') (A : Arv Z h a cA .long z vs dv) (hj : ¬ j < 0 ∧ j < z) (hv : vs.getD j.toNatClampNeg dv = v) (H : G p l e R s m args below meth c Z.heap.size Q h k n pc' Ls (v :: st)) : G p l e R s m args below meth c Z.heap.size Q h k n pc Ls (.int j :: .ref a :: st) := by
  obtain ⟨hx, hZ, hown, rfl, hml, hret, hnm, -⟩ := cx
  obtain ⟨d, rfl⟩ := d
  intro T locs cells slots X N eT hk hn
  obtain ⟨cl, Ar, q, S, Nz, Hs, Gf⟩ := A
  obtain ⟨s₂, o, st2, r⟩ := H T _ cells slots X N eT hk hn
  exact ⟨s₂, o, X.laload hx (j := j) (v := v) (by rw [eT]; exact Ar.1) (State.isArrayOf_alike hZ.alike Ar.2.1) Ar.2.2 (inb_of S hj) (Hs.at (inb_of S hj) hv) (g := mkF m pc Ls (.int j :: .ref a :: st)) rfl rfl d _ st2, r⟩
theorem g_caload {kx nx : Nat} (cx : Cx Z p s m meth c R kx nx own nm code maxL ret) {a : Addr} {cA : ClassId} {z j : Int32} {vs : List Value} {dv v : Value} (d : Dc code pc .caload 1 pc') (A : Arv Z h a cA .char z vs dv) (hj : ¬ j < 0 ∧ j < z) (hv : vs.getD j.toNatClampNeg dv = v) (H : G p l e R s m args below meth c Z.heap.size Q h k n pc' Ls (v :: st)) : G p l e R s m args below meth c Z.heap.size Q h k n pc Ls (.int j :: .ref a :: st) := by
  obtain ⟨hx, hZ, hown, rfl, hml, hret, hnm, -⟩ := cx
  obtain ⟨d, rfl⟩ := d
  intro T locs cells slots X N eT hk hn
  obtain ⟨cl, Ar, q, S, Nz, Hs, Gf⟩ := A
  obtain ⟨s₂, o, st2, r⟩ := H T _ cells slots X N eT hk hn
  exact ⟨s₂, o, X.caload hx (j := j) (v := v) (by rw [eT]; exact Ar.1) (State.isArrayOf_alike hZ.alike Ar.2.1) Ar.2.2 (inb_of S hj) (Hs.at (inb_of S hj) hv) (g := mkF m pc Ls (.int j :: .ref a :: st)) rfl rfl d _ st2, r⟩
theorem g_baload {kx nx : Nat} (cx : Cx Z p s m meth c R kx nx own nm code maxL ret) {a : Addr} {cA : ClassId} {z j : Int32} {vs : List Value} {dv v : Value} (d : Dc code pc .baload 1 pc') (A : Arv Z h a cA .byte z vs dv) (hj : ¬ j < 0 ∧ j < z) (hv : vs.getD j.toNatClampNeg dv = v) (H : G p l e R s m args below meth c Z.heap.size Q h k n pc' Ls (v :: st)) : G p l e R s m args below meth c Z.heap.size Q h k n pc Ls (.int j :: .ref a :: st) := by
  obtain ⟨hx, hZ, hown, rfl, hml, hret, hnm, -⟩ := cx
  obtain ⟨d, rfl⟩ := d
  intro T locs cells slots X N eT hk hn
  obtain ⟨cl, Ar, q, S, Nz, Hs, Gf⟩ := A
  obtain ⟨s₂, o, st2, r⟩ := H T _ cells slots X N eT hk hn
  exact ⟨s₂, o, X.baloadBytes hx (j := j) (v := v) (by rw [eT]; exact Ar.1) (State.isArrayOf_alike hZ.alike Ar.2.1) Ar.2.2 (inb_of S hj) (Hs.at (inb_of S hj) hv) (g := mkF m pc Ls (.int j :: .ref a :: st)) rfl rfl d _ st2, r⟩
theorem g_aaload {kx nx : Nat} (cx : Cx Z p s m meth c R kx nx own nm code maxL ret) {a : Addr} {cA : ClassId} {z j : Int32} {vs : List Value} {dv v : Value} {ty : FieldType} (d : Dc code pc .aaload 1 pc') (A : Arv Z h a cA ty z vs dv) (hty : ty.isReference = true) (hj : ¬ j < 0 ∧ j < z) (hv : vs.getD j.toNatClampNeg dv = v) (H : G p l e R s m args below meth c Z.heap.size Q h k n pc' Ls (v :: st)) : G p l e R s m args below meth c Z.heap.size Q h k n pc Ls (.int j :: .ref a :: st) := by
  obtain ⟨hx, hZ, hown, rfl, hml, hret, hnm, -⟩ := cx
  obtain ⟨d, rfl⟩ := d
  intro T locs cells slots X N eT hk hn
  obtain ⟨cl, Ar, q, S, Nz, Hs, Gf⟩ := A
  obtain ⟨s₂, o, st2, r⟩ := H T _ cells slots X N eT hk hn
  exact ⟨s₂, o, X.aaload hx (j := j) (v := v) (by rw [eT]; exact Ar.1) (State.isArrayOf_alike hZ.alike Ar.2.1) hty Ar.2.2 (inb_of S hj) (Hs.at (inb_of S hj) hv) (g := mkF m pc Ls (.int j :: .ref a :: st)) rfl rfl d _ st2, r⟩
theorem g_arraylength {kx nx : Nat} (cx : Cx Z p s m meth c R kx nx own nm code maxL ret) {a : Addr} {cA : ClassId} {z : Int32} {vs : List Value} {dv : Value} {ty : FieldType} (d : Dc code pc .arraylength 1 pc') (A : Arv Z h a cA ty z vs dv) (H : G p l e R s m args below meth c Z.heap.size Q h k n pc' Ls (.int z :: st)) : G p l e R s m args below meth c Z.heap.size Q h k n pc Ls (.ref a :: st) := by
  obtain ⟨hx, hZ, hown, rfl, hml, hret, hnm, -⟩ := cx
  obtain ⟨d, rfl⟩ := d
  intro T locs cells slots X N eT hk hn
  obtain ⟨cl, Ar, q, S, Nz, Hs, Gf⟩ := A
  obtain ⟨s₂, o, st2, r⟩ := H T _ cells slots X N eT hk hn
  exact ⟨s₂, o, X.arraylength hx (by rw [eT]; exact Ar.1) (State.isArrayOf_alike hZ.alike Ar.2.1) (g := mkF m pc Ls (.ref a :: st)) rfl rfl d _ (by rw [len_of S Nz]; exact st2), r⟩
theorem g_checkcast {kx nx : Nat} (cx : Cx Z p s m meth c R kx nx own nm code maxL ret) {K : String} {i : Nat} {a : Addr} (d : Dc code pc (.checkcast i) 3 pc') (w : (Jvm.Cond.classLink own i K).before a0 Z = true) (F : Ins Z h a K true) (H : G p l e R s m args below meth c Z.heap.size Q h k n pc' Ls (.ref a :: st)) : G p l e R s m args below meth c Z.heap.size Q h k n pc Ls (.ref a :: st) := by
  obtain ⟨hx, hZ, hown, rfl, hml, hret, hnm, -⟩ := cx
  obtain ⟨d, rfl⟩ := d
  intro T locs cells slots X N eT hk hn
  obtain ⟨T', X', e', stp⟩ := castY X hx hZ hown w eT F (g := mkF m pc Ls (.ref a :: st)) rfl rfl d
  obtain ⟨s₂, o, st2, r⟩ := H T' _ cells slots X' N e' hk hn
  exact ⟨s₂, o, stp _ st2, r⟩
theorem g_instanceY {kx nx : Nat} (cx : Cx Z p s m meth c R kx nx own nm code maxL ret) {K : String} {i : Nat} {a : Addr} (d : Dc code pc (.instanceof i) 3 pc') (w : (Jvm.Cond.classLink own i K).before a0 Z = true) (F : Ins Z h a K true) (H : G p l e R s m args below meth c Z.heap.size Q h k n pc' Ls (.int 1 :: st)) : G p l e R s m args below meth c Z.heap.size Q h k n pc Ls (.ref a :: st) := by
  obtain ⟨hx, hZ, hown, rfl, hml, hret, hnm, -⟩ := cx
  obtain ⟨d, rfl⟩ := d
  intro T locs cells slots X N eT hk hn
  obtain ⟨T', X', e', stp⟩ := instY X hx hZ hown w eT F (g := mkF m pc Ls (.ref a :: st)) rfl rfl d
  obtain ⟨s₂, o, st2, r⟩ := H T' _ cells slots X' N e' hk hn
  exact ⟨s₂, o, stp _ st2, r⟩
theorem g_ret {kx nx : Nat} (cx : Cx Z p s m meth c R kx nx own nm code maxL ret) {t : FieldType} {w v : Value} {i : Instr} (d : Dc code pc i 1 pc') (hR : ret = some t)
    (hs : ∀ T locs cells slots, Stand p l e R s m args below meth c T locs cells slots → ∀ fs, (∀ (f : JFrame) (acts : List Action), f.method = m → f.locked = none → f.entered = [] → (doReturn e (T.setTop f) acts (some v)).1 = T.setFrames fs) → Steps p.tables e below (T.setTop (mkF m pc Ls (w :: st))) (T.setFrames fs))
    (hk : k ≤ R.cells) (hn : n ≤ R.slots) (q : Q (some v) h) : G p l e R s m args below meth c Z.heap.size Q h k n pc Ls (w :: st) := by
  obtain ⟨hx, hZ, hown, rfl, hml, rfl, hnm, hlk⟩ := cx
  intro T locs cells slots X N eT hk' hn'
  obtain ⟨fs, hr, hrun, hended, hW, hsame⟩ := X.leave (v := some v) (fun h => by rw [hR] at h; cases h) hlk
  exact ⟨_, _, hs T locs cells slots X fs hr, hrun, hended, _, locs, rfl, ⟨by show Q _ T.heap; rw [eT]; exact q, N⟩, ⟨_, rfl⟩, hW, hsame.mono (by omega) (by omega)⟩
theorem g_retI {kx nx : Nat} (cx : Cx Z p s m meth c R kx nx own nm code maxL ret) {x : Int32} (d : Dc code pc .ireturn 1 pc') (hR : ret = some .int) (hk : k ≤ R.cells) (hn : n ≤ R.slots) (q : Q (some (.int x)) h) : G p l e R s m args below meth c Z.heap.size Q h k n pc Ls (.int x :: st) :=
  g_ret cx (t := .int) d hR (fun T locs cells slots X fs hl => retOut X cx.1 (cx.2.2.2.2.2.1.trans hR) rfl (Or.inl ⟨rfl, Or.inl rfl, _, rfl⟩) (by rw [cx.2.2.2.1]; exact d.1) hl) hk hn q
theorem g_retJ {kx nx : Nat} (cx : Cx Z p s m meth c R kx nx own nm code maxL ret) {x : Int64} (d : Dc code pc .lreturn 1 pc') (hR : ret = some .long) (hk : k ≤ R.cells) (hn : n ≤ R.slots) (q : Q (some (.long x)) h) : G p l e R s m args below meth c Z.heap.size Q h k n pc Ls (.long x :: st) :=
  g_ret cx (t := .long) d hR (fun T locs cells slots X fs hl => retOut X cx.1 (cx.2.2.2.2.2.1.trans hR) rfl (Or.inr (Or.inl ⟨rfl, rfl, _, rfl⟩)) (by rw [cx.2.2.2.1]; exact d.1) hl) hk hn q
theorem g_retN {kx nx : Nat} (cx : Cx Z p s m meth c R kx nx own nm code maxL ret) {x : Int32} {t : FieldType} (d : Dc code pc .ireturn 1 pc') (hR : ret = some t) (ht : t = .boolean ∨ t = .byte ∨ t = .char ∨ t = .short) (hk : k ≤ R.cells) (hn : n ≤ R.slots) (q : Q (some (.int (nar t x))) h) : G p l e R s m args below meth c Z.heap.size Q h k n pc Ls (.int x :: st) :=
  g_ret cx (t := t) d hR (fun T locs cells slots X fs hl => retN X cx.1 (cx.2.2.2.2.2.1.trans hR) ht (by rw [cx.2.2.2.1]; exact d.1) hl) hk hn q
theorem g_retZ {kx nx : Nat} (cx : Cx Z p s m meth c R kx nx own nm code maxL ret) {x : Int32} (d : Dc code pc .ireturn 1 pc') (hR : ret = some .boolean) (hx01 : nar .boolean x = x) (hk : k ≤ R.cells) (hn : n ≤ R.slots) (q : Q (some (.int x)) h) : G p l e R s m args below meth c Z.heap.size Q h k n pc Ls (.int x :: st) :=
  g_retN cx d hR (Or.inl rfl) hk hn (by rw [hx01]; exact q)
theorem g_retA {kx nx : Nat} (cx : Cx Z p s m meth c R kx nx own nm code maxL ret) {w : Value} {t : FieldType} (d : Dc code pc .areturn 1 pc') (hR : ret = some t) (ht : t.isReference = true) (hw : w.isRef = true) (hnar : narrow t w = w) (hk : k ≤ R.cells) (hn : n ≤ R.slots) (q : Q (some w) h) : G p l e R s m args below meth c Z.heap.size Q h k n pc Ls (w :: st) :=
  g_ret cx (t := t) d hR (fun T locs cells slots X fs hl => retOut X cx.1 (cx.2.2.2.2.2.1.trans hR) hnar (Or.inr (Or.inr (Or.inr (Or.inr ⟨rfl, ht, hw⟩)))) (by rw [cx.2.2.2.1]; exact d.1) hl) hk hn q
theorem g_retV {kx nx : Nat} (cx : Cx Z p s m meth c R kx nx own nm code maxL ret) (d : Dc code pc .return_ 1 pc') (hR : ret = none) (hk : k ≤ R.cells) (hn : n ≤ R.slots) (q : Q none h) : G p l e R s m args below meth c Z.heap.size Q h k n pc Ls [] := by
  obtain ⟨hx, hZ, hown, rfl, hml, rfl, hnm, hlk⟩ := cx
  intro T locs cells slots X N eT hk' hn'
  obtain ⟨fs, hr, hrun, hended, hW, hsame⟩ := X.leave (v := none) (fun _ => rfl) hlk
  exact ⟨_, _, X.returnOut hx hR d.1 hr, hrun, hended, _, locs, rfl, ⟨by show Q _ T.heap; rw [eT]; exact q, N⟩, ⟨_, rfl⟩, hW, hsame.mono (by omega) (by omega)⟩
theorem g_initO {kx nx : Nat} (cx : Cx Z p s m meth c R kx nx own nm code maxL ret) {i W : Nat} {a : Addr} (d : Dc code pc (.invokespecial i) 3 pc') (w1 : (Jvm.Cond.methodLink own i Lib.objectInit).before a0 Z = true) (w2 : (Jvm.Cond.instanceMethod Lib.objectInit).before a0 Z = true) (w3 : (Jvm.Cond.code Lib.objectInit ⟨#[0xb1]⟩ 1 none).before a0 Z = true) (hsz : Ls.size = maxL) (hf : 1 ≤ R.frames) (hW : (st.map fun v => v.category).sum ≤ W) (hl : W + 12 ≤ R.locals)
    (H : G p l e R s m args below meth c Z.heap.size Q h k n pc' Ls st) : G p l e R s m args below meth c Z.heap.size Q h k n pc Ls (.ref a :: st) := by
  obtain ⟨hx, hZ, hown, rfl, hml, hret, hnm, -⟩ := cx
  obtain ⟨d, rfl⟩ := d
  intro T locs cells slots X N eT hk hn
  obtain ⟨T', X', e', stp⟩ := initO X hx hZ hown w1 w2 w3 eT (g := mkF m pc Ls (.ref a :: st)) rfl (by rw [hml]; exact hsz) rfl d hf (W := W) (by show 2 * 0 + _ ≤ _; omega) hl
  obtain ⟨s₂, o, st2, r⟩ := H T' locs cells slots X' N e' hk hn
  exact ⟨s₂, o, stp _ st2, r⟩
theorem own_dummy : True := trivial
theorem g_static {kx nx : Nat} (cx : Cx Z p s m meth c R kx nx own nm code maxL ret) {i W k' n' maxL' : Nat} {bytes : ByteArray} {ret' : Option FieldType} {rm : Room} {argsL : List Value} {Q' : Option Value → Heap → Prop} {y : MethodName} (d : Dc code pc (.invokestatic i) 3 pc') (w1 : (Jvm.Cond.methodLink own i y).before a0 Z = true) (w2 : (Jvm.Cond.static y).before a0 Z = true) (w3 : (Jvm.Cond.initialized y.cls).before a0 Z = true) (w4 : (Jvm.Cond.code y bytes maxL' ret').before a0 Z = true) (hy : y.cls ≠ "java/lang/invoke/MethodHandle" ∧ y.cls ≠ "java/lang/invoke/VarHandle") (M : Met l Z y bytes maxL' ret' rm argsL.toArray h Q') (hsz : Ls.size = maxL) (hlen : ∀ sig, parseMethodDescriptor y.desc = some sig → argsL.length = sig.parameters.length) (hf : rm.frames + 1 ≤ R.frames) (hW : (rest.map fun v => v.category).sum ≤ W) (hl : W + (maxL' + 11) + rm.locals ≤ R.locals) (hk1 : k + rm.cells = k') (hn1 : n + rm.slots = n') (hkR : k' ≤ R.cells) (hnR : n' ≤ R.slots)
    (hst : st = argsL.reverse ++ rest) (H : ∀ v h', Q' v h' → G p l e R s m args below meth c Z.heap.size Q h' k' n' pc' Ls (v.toList ++ rest)) : G p l e R s m args below meth c Z.heap.size Q h k n pc Ls st := by
  obtain ⟨hx, hZ, hown, rfl, hml, hret, hnm, -⟩ := cx
  obtain ⟨d, rfl⟩ := d
  subst hk1 hn1 hst
  intro T locs cells slots X N eT hk hn
  obtain ⟨v, _, ⟨T', L', k1', n1'⟩, -, X', ⟨Lc, hQ, l1, l2, l3⟩, stp⟩ := Jvm.LawKit.callS X hx (y := y) hown (mvT hZ w1) (mvT hZ w2) (mvT hZ w3) (mvT hZ w4) hy (backOf (W := W) (Q := fun v h L => Q' v h ∧ Fr Z.heap.size L) (M []) hZ w4 w3 hf hl) (g := mkF m pc Ls (argsL.reverse ++ rest)) rfl (by rw [hml]; exact hsz)  (argsL := argsL) (rest := rest) hlen rfl (by show 2 * 0 + _ ≤ _; omega) d (fun _ _ => ⟨rfl, eT, (by show cells + rm.cells ≤ _; omega), (by show slots + rm.slots ≤ _; omega)⟩)
  dsimp only [Pt.U, Pt.locs, Pt.cells, Pt.slots] at X' l1 l2 l3 stp hQ
  subst l1 l2 l3
  obtain ⟨s₂, o, st2, r⟩ := H v T'.heap hQ.1 T' _ _ _ X' (Fr.app N hQ.2) rfl (by omega) (by omega)
  exact ⟨s₂, o, stp _ st2, r⟩
theorem g_special {kx nx : Nat} (cx : Cx Z p s m meth c R kx nx own nm code maxL ret) {i W k' n' maxL' : Nat} {bytes : ByteArray} {ret' : Option FieldType} {rm : Room} {argsL : List Value} {Q' : Option Value → Heap → Prop} {y : MethodName} {a : Addr} (d : Dc code pc (.invokespecial i) 3 pc') (hyn : y.name = "<init>") (hr0 : ret' = none) (w1 : (Jvm.Cond.methodLink own i y).before a0 Z = true) (w2 : (Jvm.Cond.instanceMethod y).before a0 Z = true) (w3 : (Jvm.Cond.initialized y.cls).before a0 Z = true) (w4 : (Jvm.Cond.code y bytes maxL' ret').before a0 Z = true) (hy : y.cls ≠ "java/lang/invoke/MethodHandle" ∧ y.cls ≠ "java/lang/invoke/VarHandle") (M : Met l Z y bytes maxL' ret' rm (.ref a :: argsL).toArray h Q') (hsz : Ls.size = maxL) (hlen : ∀ sig, parseMethodDescriptor y.desc = some sig → argsL.length = sig.parameters.length) (hf : rm.frames + 1 ≤ R.frames) (hW : (rest.map fun v => v.category).sum ≤ W) (hl : W + (maxL' + 11) + rm.locals ≤ R.locals) (hk1 : k + rm.cells = k') (hn1 : n + rm.slots = n') (hkR : k' ≤ R.cells) (hnR : n' ≤ R.slots)
    (hst : st = argsL.reverse ++ .ref a :: rest) (H : ∀ v h', Q' v h' → G p l e R s m args below meth c Z.heap.size Q h' k' n' pc' Ls (v.toList ++ rest)) : G p l e R s m args below meth c Z.heap.size Q h k n pc Ls st := by
  obtain ⟨hx, hZ, hown, rfl, hml, hret, hnm, -⟩ := cx
  obtain ⟨d, rfl⟩ := d
  subst hk1 hn1 hst
  intro T locs cells slots X N eT hk hn
  subst hr0
  obtain ⟨v, _, ⟨T', L', k1', n1'⟩, -, X', ⟨Lc, hQ, l1, l2, l3⟩, stp⟩ := X.specialBack hx (y := y) hyn hown (mvT hZ w1) (mvT hZ w2) (mvT hZ w4) hy (backOf (W := W) (Q := fun v h L => Q' v h ∧ Fr Z.heap.size L) (M []) hZ w4 w3 hf hl) (g := mkF m pc Ls (argsL.reverse ++ .ref a :: rest)) rfl (by rw [hml]; exact hsz) (Steps.refl _) (a := a) (argsL := argsL) (rest := rest) hlen rfl (by show 2 * 0 + _ ≤ _; omega) d (fun _ _ => ⟨rfl, eT, (by show cells + rm.cells ≤ _; omega), (by show slots + rm.slots ≤ _; omega)⟩)
  dsimp only [Pt.U, Pt.locs, Pt.cells, Pt.slots] at X' l1 l2 l3 stp hQ
  subst l1 l2 l3
  obtain ⟨s₂, o, st2, r⟩ := H v T'.heap hQ.1 T' _ _ _ X' (Fr.app N hQ.2) rfl (by omega) (by omega)
  exact ⟨s₂, o, stp.trans st2, r⟩
theorem g_virtual {kx nx : Nat} (cx : Cx Z p s m meth c R kx nx own nm code maxL ret) {i W k' n' maxL' : Nat} {bytes : ByteArray} {ret' : Option FieldType} {rm : Room} {argsL : List Value} {Q' : Option Value → Heap → Prop} {y z : MethodName} {a : Addr} {C : String} (d : Dc code pc (.invokevirtual i) 3 pc') (w1 : (Jvm.Cond.methodLink own i y).before a0 Z = true) (w2 : (Jvm.Cond.declares y).before a0 Z = true) (w3 : (Jvm.Cond.initialized z.cls).before a0 Z = true) (w4 : (Jvm.Cond.code z bytes maxL' ret').before a0 Z = true) (w5 : (Jvm.Cond.selects C y z).before a0 Z = true) (w6 : (Jvm.Cond.instanceMethod z).before a0 Z = true) (hnf : y = z) (hy : y.cls ≠ "java/lang/invoke/MethodHandle" ∧ y.cls ≠ "java/lang/invoke/VarHandle") (E : Exa Z h a C) (M : Met l Z z bytes maxL' ret' rm (.ref a :: argsL).toArray h Q') (hsz : Ls.size = maxL) (hlen : ∀ sig, parseMethodDescriptor y.desc = some sig → argsL.length = sig.parameters.length) (hf : rm.frames + 1 ≤ R.frames) (hW : (rest.map fun v => v.category).sum ≤ W) (hl : W + (maxL' + 11) + rm.locals ≤ R.locals) (hk1 : k + rm.cells = k') (hn1 : n + rm.slots = n') (hkR : k' ≤ R.cells) (hnR : n' ≤ R.slots)
    (hst : st = argsL.reverse ++ .ref a :: rest) (H : ∀ v h', Q' v h' → G p l e R s m args below meth c Z.heap.size Q h' k' n' pc' Ls (v.toList ++ rest)) : G p l e R s m args below meth c Z.heap.size Q h k n pc Ls st := by
  obtain ⟨hx, hZ, hown, rfl, hml, hret, hnm, -⟩ := cx
  obtain ⟨d, rfl⟩ := d
  subst hk1 hn1 hst
  intro T locs cells slots X N eT hk hn
  subst hnf
  obtain ⟨cq, kq, q1, q2, q3⟩ := isOf hZ eT E
  obtain ⟨v, _, ⟨T', L', k1', n1'⟩, -, X', ⟨Lc, hQ, l1, l2, l3⟩, stp⟩ := X.virtualBack hx (y := y) (z := y) hown (mvT hZ w1) (mvT hZ w2) (notFace_of_selects (args := #[]) (mvT hZ w5)) (mvT hZ w5) (mvT hZ w6) hy (backOf (W := W) (Q := fun v h L => Q' v h ∧ Fr Z.heap.size L) (M []) hZ w4 w3 hf hl) q1 q3 (g := mkF m pc Ls (argsL.reverse ++ .ref a :: rest)) rfl (by rw [hml]; exact hsz) (Steps.refl _) (argsL := argsL) (rest := rest) hlen rfl (by show 2 * 0 + _ ≤ _; omega) d (fun _ _ => ⟨rfl, eT, (by show cells + rm.cells ≤ _; omega), (by show slots + rm.slots ≤ _; omega)⟩)
  dsimp only [Pt.U, Pt.locs, Pt.cells, Pt.slots] at X' l1 l2 l3 stp hQ
  subst l1 l2 l3
  obtain ⟨s₂, o, st2, r⟩ := H v T'.heap hQ.1 T' _ _ _ X' (Fr.app N hQ.2) rfl (by omega) (by omega)
  exact ⟨s₂, o, stp.trans st2, r⟩
theorem g_private {kx nx : Nat} (cx : Cx Z p s m meth c R kx nx own nm code maxL ret) {i W k' n' maxL' : Nat} {bytes : ByteArray} {ret' : Option FieldType} {rm : Room} {argsL : List Value} {Q' : Option Value → Heap → Prop} {y : MethodName} {a : Addr} (d : Dc code pc (.invokevirtual i) 3 pc') (w1 : (Jvm.Cond.methodLink own i y).before a0 Z = true) (w2 : (Jvm.Cond.instanceMethod y).before a0 Z = true) (w3 : (Jvm.Cond.initialized y.cls).before a0 Z = true) (w4 : (Jvm.Cond.code y bytes maxL' ret').before a0 Z = true) (w5 : (Jvm.Cond.selects y.cls y y).before a0 Z = true) (w6 : (Jvm.Cond.privateMethod y).before a0 Z = true) (hy : y.cls ≠ "java/lang/invoke/MethodHandle" ∧ y.cls ≠ "java/lang/invoke/VarHandle") {C : String} (E : Exa Z h a C) (M : Met l Z y bytes maxL' ret' rm (.ref a :: argsL).toArray h Q') (hsz : Ls.size = maxL) (hlen : ∀ sig, parseMethodDescriptor y.desc = some sig → argsL.length = sig.parameters.length) (hf : rm.frames + 1 ≤ R.frames) (hW : (rest.map fun v => v.category).sum ≤ W) (hl : W + (maxL' + 11) + rm.locals ≤ R.locals) (hk1 : k + rm.cells = k') (hn1 : n + rm.slots = n') (hkR : k' ≤ R.cells) (hnR : n' ≤ R.slots)
    (hst : st = argsL.reverse ++ .ref a :: rest) (H : ∀ v h', Q' v h' → G p l e R s m args below meth c Z.heap.size Q h' k' n' pc' Ls (v.toList ++ rest)) : G p l e R s m args below meth c Z.heap.size Q h k n pc Ls st := by
  obtain ⟨hx, hZ, hown, rfl, hml, hret, hnm, -⟩ := cx
  obtain ⟨d, rfl⟩ := d
  subst hk1 hn1 hst
  intro T locs cells slots X N eT hk hn
  obtain ⟨cq, q1, q2⟩ := E.cell
  obtain ⟨v, _, ⟨T', L', k1', n1'⟩, -, X', ⟨Lc, hQ, l1, l2, l3⟩, stp⟩ := X.privateBack hx (y := y) hown (mvT hZ w1) (mvT hZ w2) (mvT hZ w5) (Cond.privateMethod_at (mvP hZ w6 (args := #[]))) (mvT hZ w4) hy (backOf (W := W) (Q := fun v h L => Q' v h ∧ Fr Z.heap.size L) (M []) hZ w4 w3 hf hl) (g := mkF m pc Ls (argsL.reverse ++ .ref a :: rest)) rfl (by rw [hml]; exact hsz) (Steps.refl _) (a := a) (by rw [eT]; exact q1) q2 (argsL := argsL) (rest := rest) hlen rfl (by show 2 * 0 + _ ≤ _; omega) d (fun _ _ => ⟨rfl, eT, (by show cells + rm.cells ≤ _; omega), (by show slots + rm.slots ≤ _; omega)⟩)
  dsimp only [Pt.U, Pt.locs, Pt.cells, Pt.slots] at X' l1 l2 l3 stp hQ
  subst l1 l2 l3
  obtain ⟨s₂, o, st2, r⟩ := H v T'.heap hQ.1 T' _ _ _ X' (Fr.app N hQ.2) rfl (by omega) (by omega)
  exact ⟨s₂, o, stp.trans st2, r⟩
theorem g_virtualUp {kx nx : Nat} (cx : Cx Z p s m meth c R kx nx own nm code maxL ret) {i W k' n' maxL' : Nat} {bytes : ByteArray} {ret' : Option FieldType} {rm : Room} {argsL : List Value} {Q' : Option Value → Heap → Prop} {x y : MethodName} {a : Addr} {C owner : String} (d : Dc code pc (.invokevirtual i) 3 pc') (w1 : (Jvm.Cond.methodLink own i x).before a0 Z = true) (w0 : (Jvm.Cond.sameMethod x.cls owner x.name x.desc).before a0 Z = true) (w2 : (Jvm.Cond.declares ⟨owner, x.name, x.desc⟩).before a0 Z = true) (w3 : (Jvm.Cond.initialized y.cls).before a0 Z = true) (w4 : (Jvm.Cond.code y bytes maxL' ret').before a0 Z = true) (w5 : (Jvm.Cond.selects C x y).before a0 Z = true) (w6 : (Jvm.Cond.instanceMethod y).before a0 Z = true) (hy : owner ≠ "java/lang/invoke/MethodHandle" ∧ owner ≠ "java/lang/invoke/VarHandle") (E : Exa Z h a C) (M : Met l Z y bytes maxL' ret' rm (.ref a :: argsL).toArray h Q') (hsz : Ls.size = maxL) (hlen : ∀ sig, parseMethodDescriptor x.desc = some sig → argsL.length = sig.parameters.length) (hf : rm.frames + 1 ≤ R.frames) (hW : (rest.map fun v => v.category).sum ≤ W) (hl : W + (maxL' + 11) + rm.locals ≤ R.locals) (hk1 : k + rm.cells = k') (hn1 : n + rm.slots = n') (hkR : k' ≤ R.cells) (hnR : n' ≤ R.slots)
    (hst : st = argsL.reverse ++ .ref a :: rest) (H : ∀ v h', Q' v h' → G p l e R s m args below meth c Z.heap.size Q h' k' n' pc' Ls (v.toList ++ rest)) : G p l e R s m args below meth c Z.heap.size Q h k n pc Ls st := by
  obtain ⟨hx, hZ, hown, rfl, hml, hret, hnm, -⟩ := cx
  obtain ⟨d, rfl⟩ := d
  subst hk1 hn1 hst
  intro T locs cells slots X N eT hk hn
  obtain ⟨cq, kq, q1, q2, q3⟩ := isOf hZ eT E
  obtain ⟨v, _, ⟨T', L', k1', n1'⟩, -, X', ⟨Lc, hQ, l1, l2, l3⟩, stp⟩ := X.virtualBackUp hx (x := x) (y := y) hown (mvT hZ w1) (mvT hZ w0) (mvT hZ w2) hy (mvT hZ w5) (mvT hZ w6) (backOf (W := W) (Q := fun v h L => Q' v h ∧ Fr Z.heap.size L) (M []) hZ w4 w3 hf hl) q1 q3 (g := mkF m pc Ls (argsL.reverse ++ .ref a :: rest)) rfl (by rw [hml]; exact hsz) (Steps.refl _) (argsL := argsL) (rest := rest) hlen rfl (by show 2 * 0 + _ ≤ _; omega) d (fun _ _ => ⟨rfl, eT, (by show cells + rm.cells ≤ _; omega), (by show slots + rm.slots ≤ _; omega)⟩)
  dsimp only [Pt.U, Pt.locs, Pt.cells, Pt.slots] at X' l1 l2 l3 stp hQ
  subst l1 l2 l3
  obtain ⟨s₂, o, st2, r⟩ := H v T'.heap hQ.1 T' _ _ _ X' (Fr.app N hQ.2) rfl (by omega) (by omega)
  exact ⟨s₂, o, stp.trans st2, r⟩
theorem specialRef {T : State} {locs : List Loc} {cells slots : Nat} (X : Stand p l e R s m args below meth c T locs cells slots) (hexec : p.tables.exec = Jvm.exec) (hZ : Z.Warmed39 s.vm) {index : Nat} {y : MethodName} (hy1 : y.name = "<init>") (hown : s.vm.findClass own = some m.cls)
    (href : (Jvm.Cond.methodRef own index y).before a0 Z = true) (hinst : (Jvm.Cond.instanceMethod y).before a0 Z = true) {bytes : ByteArray} {mL : Nat} (hcode : (Jvm.Cond.code y bytes mL none).before a0 Z = true) (hy : y.cls ≠ "java/lang/invoke/MethodHandle" ∧ y.cls ≠ "java/lang/invoke/VarHandle")
    {W : Nat} {Pre : Pt → Array Value → Prop} {Post : Pt → Array Value → Option Value → Pt → Prop} (hK : Back l R p e below s args y 3 W Pre Post)
    {g : JFrame} (hg : g.method = m) (hsize : g.locals.size = c.maxLocals) {a : Addr} {argsL rest : List Value}
    (hlen : ∀ sig, parseMethodDescriptor y.desc = some sig → argsL.length = sig.parameters.length) (hstack : g.stack = argsL.reverse ++ .ref a :: rest) (hW : 2 * g.monitorRoom + (rest.map fun v => v.category).sum ≤ W)
    (hdg : decode c.code g.pc = .ok (.invokespecial index, 3)) (hpre : Pre ⟨T, locs, cells, slots⟩ (.ref a :: argsL).toArray) :
    ∃ (v : Option Value) (B : Pt), Stand p l e R s m args below meth c B.U B.locs B.cells B.slots ∧ Post ⟨T, locs, cells, slots⟩ (.ref a :: argsL).toArray v B ∧
      Steps p.tables e below (T.setTop g) (B.U.setTop { g with pc := g.pc + 3, stack := v.toList ++ rest }) := by
  have hZT : Z.Warmed39 T.vm := wtrans hZ X.warmed
  have hinst' : (Jvm.Cond.instanceMethod y).before args s = true := mvT hZ hinst
  have hcode' : (Jvm.Cond.code y bytes mL none).before args s = true := mvT hZ hcode
  obtain ⟨obj, methO, hnO, hmO, hstO, habO⟩ := Cond.instanceMethod_spec hinst'
  obtain ⟨methO', cO, hmO', hcO, hbO, hlO, -, hlockO, -, hsigO⟩ := Cond.code_spec hnO hcode'
  cases hmO.symm.trans hmO'
  obtain ⟨kO, hkO, hnameO⟩ := className_of_methodNamed hnO
  obtain ⟨hnameMO, hdescO⟩ := name_of_methodNamed hnO hmO
  obtain ⟨objZ, _, hnZ, -⟩ := Cond.instanceMethod_spec hinst
  have hr : (Jvm.Cond.methodRef own index y).before a0 (Z.setVm T.vm) = true := Cond.methodRef_warmed39 hZT hnZ hy href
  have hownT : (Z.setVm T.vm).vm.findClass own = some m.cls := by show T.vm.findClass own = _; rw [X.warmed.alike.findClass]; exact hown
  obtain ⟨m', c', hm', hready, hfind, hnamed⟩ := Cond.methodRef_named e hownT hr
  have hf0 : s.methodFound? y.cls y.name y.desc = some obj := State.methodFound?_of_named hnO hy
  have hf1 : (s.setVm T.vm).methodFound? y.cls y.name y.desc = some obj := (State.methodFound?_setVm_of_named X.warmed.alike hnO hy).trans hf0
  have hf2 : (Z.setVm T.vm).methodFound? y.cls y.name y.desc = some obj := hf1
  cases hf2.symm.trans hm'
  have hcc : c' = obj.cls := by
    have h1 : T.vm.findClass y.cls = some c' := hfind
    rw [X.warmed.alike.findClass, findClass_of_methodNamed hnO] at h1
    exact (Option.some.inj h1).symm
  subst hcc
  obtain ⟨kO₂, hkO₂, heO₂⟩ := X.warmed.alike.2.2 _ _ hkO
  have hmO₂ : T.vm.method? obj = some methO := by rw [X.warmed.alike.method?]; exact hmO
  have hfound : lookupSpecial T.vm obj.cls "<init>" methO.desc = .method obj := by
    rw [X.warmed.alike.lookupSpecial, hdescO, ← hy1]; exact lookupSpecial_of_named hnO hmO hstO
  obtain ⟨v, B, X', hpost, hsteps⟩ := hK m meth c ⟨T, locs, cells, slots⟩ { g with stack := rest } (.invokespecial index) obj (.ref a :: argsL).toArray X hg hsize hdg hW (X.named hnO) hpre
  refine ⟨v, B, X', hpost, Steps.trans ?_ hsteps⟩
  subst hg
  jvm_step X.here [hexec, hdg, invokespecial.wp_init (e := e) (s := T) (k := kO₂) (meth := methO) (m := obj) (a := a) (args := argsL) (rest := rest) (f := g) X.here.top hnamed hready hkO₂ hmO₂ (by rw [hnameMO]; exact hy1) hstO habO hfound (hlen _ hsigO) hstack]
  intro acts
  rw [doInvoke_state]
  exact Steps.refl _
theorem g_specialRef {kx nx : Nat} (cx : Cx Z p s m meth c R kx nx own nm code maxL ret) {i W k' n' maxL' : Nat} {bytes : ByteArray} {ret' : Option FieldType} {rm : Room} {argsL : List Value} {Q' : Option Value → Heap → Prop} {y : MethodName} {a : Addr} (d : Dc code pc (.invokespecial i) 3 pc') (hyn : y.name = "<init>") (hr0 : ret' = none) (w1 : (Jvm.Cond.methodRef own i y).before a0 Z = true) (w2 : (Jvm.Cond.instanceMethod y).before a0 Z = true) (w3 : (Jvm.Cond.initialized y.cls).before a0 Z = true) (w4 : (Jvm.Cond.code y bytes maxL' ret').before a0 Z = true) (hy : y.cls ≠ "java/lang/invoke/MethodHandle" ∧ y.cls ≠ "java/lang/invoke/VarHandle") (M : Met l Z y bytes maxL' ret' rm (.ref a :: argsL).toArray h Q') (hsz : Ls.size = maxL) (hlen : ∀ sig, parseMethodDescriptor y.desc = some sig → argsL.length = sig.parameters.length) (hf : rm.frames + 1 ≤ R.frames) (hW : (rest.map fun v => v.category).sum ≤ W) (hl : W + (maxL' + 11) + rm.locals ≤ R.locals) (hk1 : k + rm.cells = k') (hn1 : n + rm.slots = n') (hkR : k' ≤ R.cells) (hnR : n' ≤ R.slots)
    (hst : st = argsL.reverse ++ .ref a :: rest) (H : ∀ v h', Q' v h' → G p l e R s m args below meth c Z.heap.size Q h' k' n' pc' Ls (v.toList ++ rest)) : G p l e R s m args below meth c Z.heap.size Q h k n pc Ls st := by
  obtain ⟨hx, hZ, hown, rfl, hml, hret, hnm, -⟩ := cx
  obtain ⟨d, rfl⟩ := d
  subst hk1 hn1 hst
  intro T locs cells slots X N eT hk hn
  subst hr0
  obtain ⟨v, ⟨T', L', k1', n1'⟩, X', ⟨Lc, hQ, l1, l2, l3⟩, stp⟩ := specialRef X hx hZ (y := y) hyn hown w1 w2 w4 hy (backOf (W := W) (Q := fun v h L => Q' v h ∧ Fr Z.heap.size L) (M []) hZ w4 w3 hf hl) (g := mkF m pc Ls (argsL.reverse ++ .ref a :: rest)) rfl (by rw [hml]; exact hsz) (a := a) (argsL := argsL) (rest := rest) hlen rfl (by show 2 * 0 + _ ≤ _; omega) d ⟨rfl, eT, (by show cells + rm.cells ≤ _; omega), (by show slots + rm.slots ≤ _; omega)⟩
  dsimp only [Pt.U, Pt.locs, Pt.cells, Pt.slots] at X' l1 l2 l3 stp hQ
  subst l1 l2 l3
  obtain ⟨s₂, o, st2, r⟩ := H v T'.heap hQ.1 T' _ _ _ X' (Fr.app N hQ.2) rfl (by omega) (by omega)
  exact ⟨s₂, o, stp.trans st2, r⟩
theorem g_lsw {kx nx : Nat} (cx : Cx Z p s m meth c R kx nx own nm code maxL ret) {x : Int32} {dflt : Int} {pairs : Array (Int × Int)} {len : Nat} (d : decode code pc = .ok (.lookupswitch dflt pairs, len)) (hs : (pairs.toList.zip (pairs.toList.drop 1)).all (fun (a, next) => a.1 < next.1) = true) {off : Int} (hf : ((pairs.find? (·.1 == x.toInt)).map (·.2)).getD dflt = off) (h0 : 0 ≤ (pc : Int) + off) (hp : ((pc : Int) + off).toNat = pc') (H : G p l e R s m args below meth c Z.heap.size Q h k n pc' Ls st) : G p l e R s m args below meth c Z.heap.size Q h k n pc Ls (.int x :: st) := by
  obtain ⟨hx, hZ, hown, rfl, hml, hret, hnm, -⟩ := cx
  subst hp
  intro T locs cells slots X N eT hk hn
  obtain ⟨s₂, o, st2, r⟩ := H T locs cells slots X N eT hk hn
  cases hq : pairs.find? (·.1 == x.toInt) with
  | none =>
    rw [hq] at hf
    have hf' : dflt = off := hf
    subst hf'
    exact ⟨s₂, o, X.lookupswitchMiss hx (g := mkF m pc Ls (.int x :: st)) rfl rfl d hs hq h0 _ st2, r⟩
  | some ao =>
    rw [hq] at hf
    have hf' : ao.2 = off := hf
    subst hf'
    exact ⟨s₂, o, X.lookupswitchHit hx (g := mkF m pc Ls (.int x :: st)) rfl rfl d hs (a := ao.1) (off := ao.2) hq h0 _ st2, r⟩
theorem lsw_miss {x : Int32} {dflt : Int} {pairs : Array (Int × Int)} (q : ∀ a ∈ pairs.toList, a.1 ≠ x.toInt) : ((pairs.find? (·.1 == x.toInt)).map (·.2)).getD dflt = dflt := by rw [find_miss q]; rfl
theorem g_aaloadR {kx nx : Nat} (cx : Cx Z p s m meth c R kx nx own nm code maxL ret) {a : Addr} {cl : Cell} {j : Int32} {v : Value} {ty : FieldType} (d : Dc code pc .aaload 1 pc') (A : Arr Z h a cl ty) (hty : ty.isReference = true) (hj : ¬ (j < 0 ∨ cl.slots.size ≤ j.toNatClampNeg)) (hv : cl.slots[j.toNatClampNeg]? = some v) (H : G p l e R s m args below meth c Z.heap.size Q h k n pc' Ls (v :: st)) : G p l e R s m args below meth c Z.heap.size Q h k n pc Ls (.int j :: .ref a :: st) := by
  obtain ⟨hx, hZ, hown, rfl, hml, hret, hnm, -⟩ := cx
  obtain ⟨d, rfl⟩ := d
  intro T locs cells slots X N eT hk hn
  obtain ⟨s₂, o, st2, r⟩ := H T _ cells slots X N eT hk hn
  exact ⟨s₂, o, X.aaload hx (j := j) (v := v) (by rw [eT]; exact A.1) (State.isArrayOf_alike hZ.alike A.2.1) hty A.2.2 hj hv (g := mkF m pc Ls (.int j :: .ref a :: st)) rfl rfl d _ st2, r⟩
theorem arr_len {t : Term} {a : Addr} {cl : Cell} {ty : FieldType} {z : Int32} (ev : t.eval args Z none [] Z = some (.ref a)) (A : Arr Z Z.heap a cl ty) (h3 : (Jvm.Cond.eq (.length t) (.int z)).value args Z none Z [] = some true) : cl.slots.size < 2 ^ 31 ∧ cl.slots.size.toInt32 = z := by
  have ex := eqv_i (F := .int z) rfl h3
  have A1 := A.fin (Vm.Alike.refl _)
  have hl : cl.slots.size < 2 ^ 31 := by
    refine Decidable.byContradiction fun hc => ?_
    simp [Term.eval, ev, A1, hc] at ex
  rw [len_f ev A1 hl] at ex
  exact ⟨hl, by simpa using ex⟩
theorem sta_arr {C f d : String} {ty : FieldType} {z : Int32} (hi : (Jvm.Cond.initializedFor C f d).before args Z = true ∨ ((Jvm.Cond.initialized C).before args Z = true ∧ (Jvm.Cond.laysStatic C f d).before args Z = true)) (h1 : (Jvm.Cond.arrayOf (.static C f d) ty).value args Z none Z [] = some true) (h3 : (Jvm.Cond.eq (.length (.static C f d)) (.int z)).value args Z none Z [] = some true) :
    ∃ a cl, Sta Z Z.heap C f d (.ref a) ∧ (Term.static C f d).eval args Z none [] Z = some (.ref a) ∧ Arr Z Z.heap a cl ty ∧ cl.slots.size < 2 ^ 31 ∧ cl.slots.size.toInt32 = z := by
  obtain ⟨a, ev⟩ := arr_v h1
  obtain ⟨cl, A⟩ := Arr.start ev h1
  obtain ⟨q1, q2⟩ := arr_len ev A h3
  exact ⟨a, cl, Sta.start ev hi, ev, A, q1, q2⟩
theorem fld_exa {t : Term} {C f d K : String} {a : Addr} (ev : t.eval args Z none [] Z = some (.ref a)) (h : (Jvm.Cond.exactly (.field t C f d) K).value args Z none Z [] = some true) : ∃ b, Fld Z Z.heap a C f d (.ref b) ∧ Exa Z Z.heap b K ∧ (Term.field t C f d).eval args Z none [] Z = some (.ref b) := by
  obtain ⟨b, eb⟩ := exa_v h
  exact ⟨b, Fld.start ((fld_at ev).symm.trans eb), Exa.start eb h, eb⟩
theorem fld_arr {t : Term} {C f d : String} {a : Addr} {ty : FieldType} {z : Int32} (ev : t.eval args Z none [] Z = some (.ref a)) (h : (Jvm.Cond.arrayOf (.field t C f d) ty).value args Z none Z [] = some true) (h3 : (Jvm.Cond.eq (.length (.field t C f d)) (.int z)).value args Z none Z [] = some true) : ∃ b cl, Fld Z Z.heap a C f d (.ref b) ∧ (Term.field t C f d).eval args Z none [] Z = some (.ref b) ∧ Arr Z Z.heap b cl ty ∧ cl.slots.size < 2 ^ 31 ∧ cl.slots.size.toInt32 = z := by
  obtain ⟨b, eb⟩ := arr_v h
  obtain ⟨cl, A⟩ := Arr.start eb h
  obtain ⟨q1, q2⟩ := arr_len eb A h3
  exact ⟨b, cl, Fld.start ((fld_at ev).symm.trans eb), eb, A, q1, q2⟩
theorem elem_eq {t : Term} {a : Addr} {cl : Cell} {ty : FieldType} {j v : Int32} (ev : t.eval args Z none [] Z = some (.ref a)) (A : Arr Z Z.heap a cl ty) (h : (Jvm.Cond.eq (.elem t (.int j)) (.int v)).value args Z none Z [] = some true) : cl.slots[j.toNatClampNeg]? = some (.int v) := (elem_in (eqv_i (F := .int v) rfl h) ev rfl A.1).2
theorem nar1 : nar .boolean 1 = 1 := rfl
theorem nar0 : nar .boolean 0 = 0 := rfl
theorem sta_exa {C f d K : String} (hx : (Jvm.Cond.exactly (.static C f d) K).value args Z none Z [] = some true) (wi : (Jvm.Cond.initialized C).before args Z = true) (wl : (Jvm.Cond.laysStatic C f d).before args Z = true) : ∃ a, Sta Z Z.heap C f d (.ref a) ∧ Exa Z Z.heap a K ∧ (Term.static C f d).eval args Z none [] Z = some (.ref a) := by
  obtain ⟨a, ev⟩ := exa_v hx
  exact ⟨a, Sta.start ev (Or.inr ⟨wi, wl⟩), Exa.start ev hx, ev⟩
theorem fld_eq {t : Term} {C f d : String} {a : Addr} {v : Int32} (ev : t.eval args Z none [] Z = some (.ref a)) (h : (Jvm.Cond.eq (.field t C f d) (.int v)).value args Z none Z [] = some true) : Fld Z Z.heap a C f d (.int v) := by
  obtain ⟨x, y, ex, ey, -, k2⟩ := cmp_v (Or.inl h)
  have e2 : y = .int v := by simpa [Term.eval] using ey.symm
  subst e2
  obtain ⟨z, rfl⟩ := k2
  have hz : z = v := by simpa [Cond.value, ex, ey] using h
  subst hz
  rw [fld_at ev] at ex
  exact Fld.start ex
theorem sta_int {C f d : String} (hi : (Jvm.Cond.initializedFor C f d).before args Z = true) (h1 : (Jvm.Cond.isInt (.static C f d)).before args Z = true) : ∃ v, Sta Z Z.heap C f d (.int v) ∧ (Term.static C f d).eval args Z none [] Z = some (.int v) := by
  obtain ⟨v, ev⟩ := is_v (Cond.before_iff.mp h1)
  exact ⟨v, Sta.start ev (Or.inl hi), ev⟩
theorem ne_of_not {t : Term} {z v : Int32} (ev : t.eval args Z none [] Z = some (.int z)) (h : (Jvm.Cond.not (.eq t (.int v))).before args Z = true) : ¬ z = v := by
  have h2 := not_v (Cond.before_iff.mp h)
  intro q
  subst q
  simp [Cond.value, ev, Term.eval] at h2
theorem own_lrem (x y : Int64) (d : Int) (hy : y.toInt = d) : (0 ≤ x.toInt → (x % y).toInt = x.toInt % d) ∧ (x.toInt < 0 → (x % y).toInt = -((-x.toInt) % d)) := by
  rw [← lrem_mod]; exact c_lrem x y d hy
end Walk
def ObL (Z : State) (h : Heap) (a : Addr) (v1 : Value) : Prop := Exa Z h a "com/example/orthogon/orthogon/rules/LinagePlayer" ∧ Fld Z h a "com/example/orthogon/orthogon/rules/LinagePlayer" "property" "Ljava/lang/String;" v1
theorem ObL.ext {h' : Heap} {Z : State} {h : Heap} {a : Addr} {v1 : Value} (F : ObL Z h a v1) (E : Ext h h') : ObL Z h' a v1 := ⟨F.1.ext E, F.2.ext E⟩
theorem ObL.keep {h' : Heap} {Z : State} {h : Heap} {a : Addr} {v1 : Value} {ws : List Addr} (F : ObL Z h a v1) (K : Keep h h' ws) (q : a ∉ ws) : ObL Z h' a v1 := ⟨F.1.keep K, F.2.keep K q⟩
theorem ObL.oth {x : Addr} {sl : Nat} {w : Value} {h' : Heap} {Z : State} {h : Heap} {a : Addr} {v1 : Value} (F : ObL Z h a v1) (W : Wr h h' x sl w) (q : a ≠ x) : ObL Z h' a v1 := ⟨F.1.wr W, F.2.other W (Or.inl q)⟩
theorem ObL.lt {Z : State} {h : Heap} {a : Addr} {v1 : Value} (F : ObL Z h a v1) : a < h.size := F.1.lt
theorem ObL.put1 {v : Value} {h' : Heap} {Z : State} {h : Heap} {a : Addr} {v1 : Value} {a0 : Array Value} (hw : ∀ d ∈ tables_1, d.before a0 Z = true) (F : ObL Z h a v1) (W : Wr h h' a (Jvm.RoadKit.slotOf Z "com/example/orthogon/orthogon/rules/LinagePlayer" "property" "Ljava/lang/String;") v) : ObL Z h' a v := ⟨F.1.wr W, F.2.same W⟩
theorem ObL.new {Z : State} {h : Heap} {b : Addr} {a0 : Array Value} (hw : ∀ d ∈ tables_1, d.before a0 Z = true) (E : Exa Z h b "com/example/orthogon/orthogon/rules/LinagePlayer") (D : ∀ {O nm d : String} {ty : FieldType}, Laid Z a0 "com/example/orthogon/orthogon/rules/LinagePlayer" O nm d → parseFieldDescriptor d = some ty → Fld Z h b O nm d (defaultValue ty)) : ObL Z h b .null := ⟨E, D (Or.inr (hw _ (List.mem_of_getElem? (i := 17) rfl))) (ty := (.object "java/lang/String")) (by decide)⟩
def ObS (Z : State) (h : Heap) (a : Addr) (v1 v2 : Value) : Prop := Exa Z h a "java/lang/String" ∧ Fld Z h a "java/lang/String" "coder" "B" v1 ∧ Fld Z h a "java/lang/String" "value" "[B" v2
theorem ObS.ext {h' : Heap} {Z : State} {h : Heap} {a : Addr} {v1 v2 : Value} (F : ObS Z h a v1 v2) (E : Ext h h') : ObS Z h' a v1 v2 := ⟨F.1.ext E, F.2.1.ext E, F.2.2.ext E⟩
theorem ObS.keep {h' : Heap} {Z : State} {h : Heap} {a : Addr} {v1 v2 : Value} {ws : List Addr} (F : ObS Z h a v1 v2) (K : Keep h h' ws) (q : a ∉ ws) : ObS Z h' a v1 v2 := ⟨F.1.keep K, F.2.1.keep K q, F.2.2.keep K q⟩
theorem ObS.oth {x : Addr} {sl : Nat} {w : Value} {h' : Heap} {Z : State} {h : Heap} {a : Addr} {v1 v2 : Value} (F : ObS Z h a v1 v2) (W : Wr h h' x sl w) (q : a ≠ x) : ObS Z h' a v1 v2 := ⟨F.1.wr W, F.2.1.other W (Or.inl q), F.2.2.other W (Or.inl q)⟩
theorem ObS.lt {Z : State} {h : Heap} {a : Addr} {v1 v2 : Value} (F : ObS Z h a v1 v2) : a < h.size := F.1.lt
theorem ObS.put1 {v : Value} {h' : Heap} {Z : State} {h : Heap} {a : Addr} {v1 v2 : Value} {a0 : Array Value} (hw : ∀ d ∈ tables_1, d.before a0 Z = true) (F : ObS Z h a v1 v2) (W : Wr h h' a (Jvm.RoadKit.slotOf Z "java/lang/String" "coder" "B") v) : ObS Z h' a v v2 := ⟨F.1.wr W, F.2.1.same W, F.2.2.other W (Or.inr (slot_ne (Or.inr (hw _ (List.mem_of_getElem? (i := 30) rfl))) (Or.inr (hw _ (List.mem_of_getElem? (i := 28) rfl))) (by decide) (t := (.array .byte)) (t' := .byte) (by decide) (by decide)))⟩
theorem ObS.put2 {v : Value} {h' : Heap} {Z : State} {h : Heap} {a : Addr} {v1 v2 : Value} {a0 : Array Value} (hw : ∀ d ∈ tables_1, d.before a0 Z = true) (F : ObS Z h a v1 v2) (W : Wr h h' a (Jvm.RoadKit.slotOf Z "java/lang/String" "value" "[B") v) : ObS Z h' a v1 v := ⟨F.1.wr W, F.2.1.other W (Or.inr (slot_ne (Or.inr (hw _ (List.mem_of_getElem? (i := 28) rfl))) (Or.inr (hw _ (List.mem_of_getElem? (i := 30) rfl))) (by decide) (t := .byte) (t' := (.array .byte)) (by decide) (by decide))), F.2.2.same W⟩
theorem ObS.new {Z : State} {h : Heap} {b : Addr} {a0 : Array Value} (hw : ∀ d ∈ tables_1, d.before a0 Z = true) (E : Exa Z h b "java/lang/String") (D : ∀ {O nm d : String} {ty : FieldType}, Laid Z a0 "java/lang/String" O nm d → parseFieldDescriptor d = some ty → Fld Z h b O nm d (defaultValue ty)) : ObS Z h b (.int (0 : Int32)) .null := ⟨E, D (Or.inr (hw _ (List.mem_of_getElem? (i := 28) rfl))) (ty := .byte) (by decide), D (Or.inr (hw _ (List.mem_of_getElem? (i := 30) rfl))) (ty := (.array .byte)) (by decide)⟩
theorem d0_0 : Dc code 0 (.iload_n 0) 1 1 := ⟨by decide +kernel, rfl⟩
theorem d0_1 : Dc code 1 (.iconst 1) 1 2 := ⟨by decide +kernel, rfl⟩
theorem d0_2 : Dc code 2 (.iand) 1 3 := ⟨by decide +kernel, rfl⟩
theorem d0_3 : Bi code 3 (Instr.ifCond .eq) 12 6 := ⟨9, by decide +kernel, by decide, by decide, rfl⟩
theorem d0_12 : Dc code 12 (.getstatic 13) 3 15 := ⟨by decide +kernel, rfl⟩
theorem d0_15 : Dc code 15 (.astore_n 1) 1 16 := ⟨by decide +kernel, rfl⟩
theorem d0_16 : Dc code 16 (.aload_n 1) 1 17 := ⟨by decide +kernel, rfl⟩
theorem d1_0 : Dc prog_31_method_5_code 0 (.aload_n 0) 1 1 := ⟨by decide +kernel, rfl⟩
theorem d1_1 : Dc prog_31_method_5_code 1 (.getstatic 3) 3 4 := ⟨by decide +kernel, rfl⟩
theorem d1_4 : Bi prog_31_method_5_code 4 (Instr.if_acmp .ne) 13 7 := ⟨9, by decide +kernel, by decide, by decide, rfl⟩
theorem d1_13 : Dc prog_31_method_5_code 13 (.getstatic 3) 3 16 := ⟨by decide +kernel, rfl⟩
theorem d1_16 : Dc prog_31_method_5_code 16 (.areturn) 1 17 := ⟨by decide +kernel, rfl⟩
theorem pn_ra1 : plainName "com/example/orthogon/orthogon/rules/LinagePlayer" = true := by first | (simp [plainName, overriddenIn]; done) | decide +kernel
set_option maxRecDepth 65536 in
set_option maxHeartbeats 40000000 in
theorem ra1 (l : Launch) (Z : State) (a0 : Array Value) (hw : ∀ d ∈ tables_1, d.before a0 Z = true) (h0 : Heap) (OL : Old Z Z.heap.size h0) (tv th sv sh bv bh : Addr) (cv ch : ClassId) (cs : Int32) (XV : Sta Z Z.heap "com/example/orthogon/orthogon/rules/LinagePlayer" "VERTICAL" "Lcom/example/orthogon/orthogon/rules/LinagePlayer;" (.ref tv)) (XH : Sta Z Z.heap "com/example/orthogon/orthogon/rules/LinagePlayer" "HORIZONTAL" "Lcom/example/orthogon/orthogon/rules/LinagePlayer;" (.ref th)) (SCS : Sta Z Z.heap "java/lang/String" "COMPACT_STRINGS" "Z" (.int cs)) (ncs : ¬ cs = 0) (net : tv ≠ th) (nes : sv ≠ sh) (Tv : ObL Z Z.heap tv (.ref sv)) (Sv : ObS Z Z.heap sv (.int (0 : Int32)) (.ref bv)) (Av : Arv Z Z.heap bv cv .byte (1 : Int32) [(.int (66 : Int32))] (.int (0 : Int32))) (Th : ObL Z Z.heap th (.ref sh)) (Sh : ObS Z Z.heap sh (.int (0 : Int32)) (.ref bh)) (Ah : Arv Z Z.heap bh ch .byte (1 : Int32) [(.int (87 : Int32))] (.int (0 : Int32)))  :
    Met l Z (⟨"com/example/orthogon/orthogon/rules/LinagePlayer", "opponent", "()Lcom/example/orthogon/orthogon/rules/LinagePlayer;"⟩ : MethodName) prog_31_method_5_code 1 (some (.object "com/example/orthogon/orthogon/rules/LinagePlayer")) ({ frames := 0, cells := 0, slots := 0, locals := 0 } : Room) #[(.ref th)] h0 (fun v h' => (¬ (((.ref th) : Value) = (.ref tv)) ∧ v = some (.ref tv) ∧ h0 = h')) := by
  refine met_of (Ls := #[.val (.ref th)]) (plainFor_of_name pn_ra1) (fun m => by first | (simp [entryFrame, mkF, argsToLocals, Value.category]; done) | rfl) (fun p e s m below meth c cx => ?_)
  have KK := Keep.refl h0 []
  have A_bv := Av.ext OL.2
  have O_sv := Sv.ext OL.2
  have O_tv := Tv.ext OL.2
  have A_bh := Ah.ext OL.2
  have O_sh := Sh.ext OL.2
  have O_th := Th.ext OL.2
  refine g_aloadN cx d1_0 rfl rfl ?_
  refine g_getS cx d1_1 (host := "") (Or.inl (hw _ (List.mem_of_getElem? (i := 8) rfl))) Via.refl (XV.ext OL.2) ?_
  refine g_acmp_ne cx rfl rfl d1_4 (fun hc4 => ?_) (fun q => absurd q (fun q => net (Value.ref.inj q).symm))
  refine g_getS cx d1_13 (host := "") (Or.inl (hw _ (List.mem_of_getElem? (i := 8) rfl))) Via.refl (XV.ext OL.2) ?_
  refine g_retA cx d1_16 (t := (.object "com/example/orthogon/orthogon/rules/LinagePlayer")) rfl rfl rfl rfl (by decide) (by decide) ?_
  exact ⟨hc4, rfl, rfl⟩
theorem pd_0 : parseMethodDescriptor "()Lcom/example/orthogon/orthogon/rules/LinagePlayer;" = some ⟨[], some (.object "com/example/orthogon/orthogon/rules/LinagePlayer")⟩ := by decide +kernel
theorem d0_17 : Dc code 17 (.invokevirtual 16) 3 20 := ⟨by decide +kernel, rfl⟩
theorem d0_20 : Dc code 20 (.astore_n 2) 1 21 := ⟨by decide +kernel, rfl⟩
theorem d0_21 : Dc code 21 (.aload_n 2) 1 22 := ⟨by decide +kernel, rfl⟩
theorem d0_22 : Bi code 22 (Instr.ifnull) 30 25 := ⟨8, by decide +kernel, by decide, by decide, rfl⟩
theorem d0_25 : Dc code 25 (.aload_n 2) 1 26 := ⟨by decide +kernel, rfl⟩
theorem d0_26 : Dc code 26 (.aload_n 1) 1 27 := ⟨by decide +kernel, rfl⟩
theorem d0_27 : Bi code 27 (Instr.if_acmp .ne) 32 30 := ⟨5, by decide +kernel, by decide, by decide, rfl⟩
theorem d0_32 : Dc code 32 (.aload_n 2) 1 33 := ⟨by decide +kernel, rfl⟩
theorem d1_7 : Dc prog_31_method_5_code 7 (.getstatic 7) 3 10 := ⟨by decide +kernel, rfl⟩
theorem d1_10 : Bi prog_31_method_5_code 10 (Instr.goto) 16 13 := ⟨6, by decide +kernel, by decide, by decide, rfl⟩
theorem pn_ra2 : plainName "com/example/orthogon/orthogon/rules/LinagePlayer" = true := by first | (simp [plainName, overriddenIn]; done) | decide +kernel
set_option maxRecDepth 65536 in
set_option maxHeartbeats 40000000 in
theorem ra2 (l : Launch) (Z : State) (a0 : Array Value) (hw : ∀ d ∈ tables_1, d.before a0 Z = true) (h0 : Heap) (OL : Old Z Z.heap.size h0) (tv th sv sh bv bh : Addr) (cv ch : ClassId) (cs : Int32) (XV : Sta Z Z.heap "com/example/orthogon/orthogon/rules/LinagePlayer" "VERTICAL" "Lcom/example/orthogon/orthogon/rules/LinagePlayer;" (.ref tv)) (XH : Sta Z Z.heap "com/example/orthogon/orthogon/rules/LinagePlayer" "HORIZONTAL" "Lcom/example/orthogon/orthogon/rules/LinagePlayer;" (.ref th)) (SCS : Sta Z Z.heap "java/lang/String" "COMPACT_STRINGS" "Z" (.int cs)) (ncs : ¬ cs = 0) (net : tv ≠ th) (nes : sv ≠ sh) (Tv : ObL Z Z.heap tv (.ref sv)) (Sv : ObS Z Z.heap sv (.int (0 : Int32)) (.ref bv)) (Av : Arv Z Z.heap bv cv .byte (1 : Int32) [(.int (66 : Int32))] (.int (0 : Int32))) (Th : ObL Z Z.heap th (.ref sh)) (Sh : ObS Z Z.heap sh (.int (0 : Int32)) (.ref bh)) (Ah : Arv Z Z.heap bh ch .byte (1 : Int32) [(.int (87 : Int32))] (.int (0 : Int32)))  :
    Met l Z (⟨"com/example/orthogon/orthogon/rules/LinagePlayer", "opponent", "()Lcom/example/orthogon/orthogon/rules/LinagePlayer;"⟩ : MethodName) prog_31_method_5_code 1 (some (.object "com/example/orthogon/orthogon/rules/LinagePlayer")) ({ frames := 0, cells := 0, slots := 0, locals := 0 } : Room) #[(.ref tv)] h0 (fun v h' => (v = some (.ref th) ∧ h0 = h')) := by
  refine met_of (Ls := #[.val (.ref tv)]) (plainFor_of_name pn_ra2) (fun m => by first | (simp [entryFrame, mkF, argsToLocals, Value.category]; done) | rfl) (fun p e s m below meth c cx => ?_)
  have KK := Keep.refl h0 []
  have A_bv := Av.ext OL.2
  have O_sv := Sv.ext OL.2
  have O_tv := Tv.ext OL.2
  have A_bh := Ah.ext OL.2
  have O_sh := Sh.ext OL.2
  have O_th := Th.ext OL.2
  refine g_aloadN cx d1_0 rfl rfl ?_
  refine g_getS cx d1_1 (host := "") (Or.inl (hw _ (List.mem_of_getElem? (i := 8) rfl))) Via.refl (XV.ext OL.2) ?_
  refine g_acmp_ne cx rfl rfl d1_4 (fun q => absurd q (fun q => q rfl)) (fun hc4 => ?_)
  refine g_getS cx d1_7 (host := "") (Or.inl (hw _ (List.mem_of_getElem? (i := 10) rfl))) Via.refl (XH.ext OL.2) ?_
  refine g_goto cx d1_10 ?_
  refine g_retA cx d1_16 (t := (.object "com/example/orthogon/orthogon/rules/LinagePlayer")) rfl rfl rfl rfl (by decide) (by decide) ?_
  exact ⟨rfl, rfl⟩
theorem d0_33 : Dc code 33 (.invokevirtual 16) 3 36 := ⟨by decide +kernel, rfl⟩
theorem d0_36 : Dc code 36 (.aload_n 1) 1 37 := ⟨by decide +kernel, rfl⟩
theorem d0_37 : Bi code 37 (Instr.if_acmp .eq) 42 40 := ⟨5, by decide +kernel, by decide, by decide, rfl⟩
theorem d0_42 : Dc code 42 (.aload_n 2) 1 43 := ⟨by decide +kernel, rfl⟩
theorem d2_0 : Dc prog_31_method_4_code 0 (.aload_n 0) 1 1 := ⟨by decide +kernel, rfl⟩
theorem d2_1 : Dc prog_31_method_4_code 1 (.getfield 29) 3 4 := ⟨by decide +kernel, rfl⟩
theorem d2_4 : Dc prog_31_method_4_code 4 (.areturn) 1 5 := ⟨by decide +kernel, rfl⟩
theorem pn_ra3 : plainName "com/example/orthogon/orthogon/rules/LinagePlayer" = true := by first | (simp [plainName, overriddenIn]; done) | decide +kernel
set_option maxRecDepth 65536 in
set_option maxHeartbeats 40000000 in
theorem ra3 (l : Launch) (Z : State) (a0 : Array Value) (hw : ∀ d ∈ tables_1, d.before a0 Z = true) (h0 : Heap) (OL : Old Z Z.heap.size h0) (tv th sv sh bv bh : Addr) (cv ch : ClassId) (cs : Int32) (XV : Sta Z Z.heap "com/example/orthogon/orthogon/rules/LinagePlayer" "VERTICAL" "Lcom/example/orthogon/orthogon/rules/LinagePlayer;" (.ref tv)) (XH : Sta Z Z.heap "com/example/orthogon/orthogon/rules/LinagePlayer" "HORIZONTAL" "Lcom/example/orthogon/orthogon/rules/LinagePlayer;" (.ref th)) (SCS : Sta Z Z.heap "java/lang/String" "COMPACT_STRINGS" "Z" (.int cs)) (ncs : ¬ cs = 0) (net : tv ≠ th) (nes : sv ≠ sh) (Tv : ObL Z Z.heap tv (.ref sv)) (Sv : ObS Z Z.heap sv (.int (0 : Int32)) (.ref bv)) (Av : Arv Z Z.heap bv cv .byte (1 : Int32) [(.int (66 : Int32))] (.int (0 : Int32))) (Th : ObL Z Z.heap th (.ref sh)) (Sh : ObS Z Z.heap sh (.int (0 : Int32)) (.ref bh)) (Ah : Arv Z Z.heap bh ch .byte (1 : Int32) [(.int (87 : Int32))] (.int (0 : Int32)))  :
    Met l Z (⟨"com/example/orthogon/orthogon/rules/LinagePlayer", "property", "()Ljava/lang/String;"⟩ : MethodName) prog_31_method_4_code 1 (some (.object "java/lang/String")) ({ frames := 0, cells := 0, slots := 0, locals := 0 } : Room) #[(.ref tv)] h0 (fun v h' => (v = some (.ref sv) ∧ h0 = h')) := by
  refine met_of (Ls := #[.val (.ref tv)]) (plainFor_of_name pn_ra3) (fun m => by first | (simp [entryFrame, mkF, argsToLocals, Value.category]; done) | rfl) (fun p e s m below meth c cx => ?_)
  have KK := Keep.refl h0 []
  have A_bv := Av.ext OL.2
  have O_sv := Sv.ext OL.2
  have O_tv := Tv.ext OL.2
  have A_bh := Ah.ext OL.2
  have O_sh := Sh.ext OL.2
  have O_th := Th.ext OL.2
  refine g_aloadN cx d2_0 rfl rfl ?_
  refine g_getF cx d2_1 (host := "") (Or.inl (hw _ (List.mem_of_getElem? (i := 16) rfl))) Via.refl O_tv.2 ?_
  refine g_retA cx d2_4 (t := (.object "java/lang/String")) rfl rfl rfl rfl (by decide) (by decide) ?_
  exact ⟨rfl, rfl⟩
theorem pd_1 : parseMethodDescriptor "()Ljava/lang/String;" = some ⟨[], some (.object "java/lang/String")⟩ := by decide +kernel
theorem d0_43 : Dc code 43 (.invokevirtual 20) 3 46 := ⟨by decide +kernel, rfl⟩
theorem d0_46 : Dc code 46 (.aload_n 1) 1 47 := ⟨by decide +kernel, rfl⟩
theorem pn_ra4 : plainName "com/example/orthogon/orthogon/rules/LinagePlayer" = true := by first | (simp [plainName, overriddenIn]; done) | decide +kernel
set_option maxRecDepth 65536 in
set_option maxHeartbeats 40000000 in
theorem ra4 (l : Launch) (Z : State) (a0 : Array Value) (hw : ∀ d ∈ tables_1, d.before a0 Z = true) (h0 : Heap) (OL : Old Z Z.heap.size h0) (tv th sv sh bv bh : Addr) (cv ch : ClassId) (cs : Int32) (XV : Sta Z Z.heap "com/example/orthogon/orthogon/rules/LinagePlayer" "VERTICAL" "Lcom/example/orthogon/orthogon/rules/LinagePlayer;" (.ref tv)) (XH : Sta Z Z.heap "com/example/orthogon/orthogon/rules/LinagePlayer" "HORIZONTAL" "Lcom/example/orthogon/orthogon/rules/LinagePlayer;" (.ref th)) (SCS : Sta Z Z.heap "java/lang/String" "COMPACT_STRINGS" "Z" (.int cs)) (ncs : ¬ cs = 0) (net : tv ≠ th) (nes : sv ≠ sh) (Tv : ObL Z Z.heap tv (.ref sv)) (Sv : ObS Z Z.heap sv (.int (0 : Int32)) (.ref bv)) (Av : Arv Z Z.heap bv cv .byte (1 : Int32) [(.int (66 : Int32))] (.int (0 : Int32))) (Th : ObL Z Z.heap th (.ref sh)) (Sh : ObS Z Z.heap sh (.int (0 : Int32)) (.ref bh)) (Ah : Arv Z Z.heap bh ch .byte (1 : Int32) [(.int (87 : Int32))] (.int (0 : Int32)))  :
    Met l Z (⟨"com/example/orthogon/orthogon/rules/LinagePlayer", "property", "()Ljava/lang/String;"⟩ : MethodName) prog_31_method_4_code 1 (some (.object "java/lang/String")) ({ frames := 0, cells := 0, slots := 0, locals := 0 } : Room) #[(.ref th)] h0 (fun v h' => (v = some (.ref sh) ∧ h0 = h')) := by
  refine met_of (Ls := #[.val (.ref th)]) (plainFor_of_name pn_ra4) (fun m => by first | (simp [entryFrame, mkF, argsToLocals, Value.category]; done) | rfl) (fun p e s m below meth c cx => ?_)
  have KK := Keep.refl h0 []
  have A_bv := Av.ext OL.2
  have O_sv := Sv.ext OL.2
  have O_tv := Tv.ext OL.2
  have A_bh := Ah.ext OL.2
  have O_sh := Sh.ext OL.2
  have O_th := Th.ext OL.2
  refine g_aloadN cx d2_0 rfl rfl ?_
  refine g_getF cx d2_1 (host := "") (Or.inl (hw _ (List.mem_of_getElem? (i := 16) rfl))) Via.refl O_th.2 ?_
  refine g_retA cx d2_4 (t := (.object "java/lang/String")) rfl rfl rfl rfl (by decide) (by decide) ?_
  exact ⟨rfl, rfl⟩
theorem d0_47 : Dc code 47 (.invokevirtual 20) 3 50 := ⟨by decide +kernel, rfl⟩
theorem d3_0 : Dc jdk_42_method_66_code 0 (.aload_n 0) 1 1 := ⟨by decide +kernel, rfl⟩
theorem d3_1 : Dc jdk_42_method_66_code 1 (.aload_n 1) 1 2 := ⟨by decide +kernel, rfl⟩
theorem d3_2 : Bi jdk_42_method_66_code 2 (Instr.if_acmp .ne) 7 5 := ⟨5, by decide +kernel, by decide, by decide, rfl⟩
theorem d3_7 : Dc jdk_42_method_66_code 7 (.aload_n 1) 1 8 := ⟨by decide +kernel, rfl⟩
theorem d3_8 : Dc jdk_42_method_66_code 8 (.instanceof 10) 3 11 := ⟨by decide +kernel, rfl⟩
theorem d3_11 : Bi jdk_42_method_66_code 11 (Instr.ifCond .eq) 54 14 := ⟨43, by decide +kernel, by decide, by decide, rfl⟩
theorem d3_14 : Dc jdk_42_method_66_code 14 (.aload_n 1) 1 15 := ⟨by decide +kernel, rfl⟩
theorem d3_15 : Dc jdk_42_method_66_code 15 (.checkcast 10) 3 18 := ⟨by decide +kernel, rfl⟩
theorem d3_18 : Dc jdk_42_method_66_code 18 (.astore_n 2) 1 19 := ⟨by decide +kernel, rfl⟩
theorem d3_19 : Dc jdk_42_method_66_code 19 (.getstatic 38) 3 22 := ⟨by decide +kernel, rfl⟩
theorem d3_22 : Bi jdk_42_method_66_code 22 (Instr.ifCond .eq) 36 25 := ⟨14, by decide +kernel, by decide, by decide, rfl⟩
theorem d3_25 : Dc jdk_42_method_66_code 25 (.aload_n 0) 1 26 := ⟨by decide +kernel, rfl⟩
theorem d3_26 : Dc jdk_42_method_66_code 26 (.getfield 15) 3 29 := ⟨by decide +kernel, rfl⟩
theorem d3_29 : Dc jdk_42_method_66_code 29 (.aload_n 2) 1 30 := ⟨by decide +kernel, rfl⟩
theorem d3_30 : Dc jdk_42_method_66_code 30 (.getfield 15) 3 33 := ⟨by decide +kernel, rfl⟩
theorem d3_33 : Bi jdk_42_method_66_code 33 (Instr.if_icmp .ne) 54 36 := ⟨21, by decide +kernel, by decide, by decide, rfl⟩
theorem d3_36 : Dc jdk_42_method_66_code 36 (.aload_n 0) 1 37 := ⟨by decide +kernel, rfl⟩
theorem d3_37 : Dc jdk_42_method_66_code 37 (.getfield 9) 3 40 := ⟨by decide +kernel, rfl⟩
theorem d3_40 : Dc jdk_42_method_66_code 40 (.aload_n 2) 1 41 := ⟨by decide +kernel, rfl⟩
theorem d3_41 : Dc jdk_42_method_66_code 41 (.getfield 9) 3 44 := ⟨by decide +kernel, rfl⟩
theorem d4_0 : Dc jdk_43_method_13_code 0 (.aload_n 0) 1 1 := ⟨by decide +kernel, rfl⟩
theorem d4_1 : Dc jdk_43_method_13_code 1 (.arraylength) 1 2 := ⟨by decide +kernel, rfl⟩
theorem d4_2 : Dc jdk_43_method_13_code 2 (.aload_n 1) 1 3 := ⟨by decide +kernel, rfl⟩
theorem d4_3 : Dc jdk_43_method_13_code 3 (.arraylength) 1 4 := ⟨by decide +kernel, rfl⟩
theorem d4_4 : Bi jdk_43_method_13_code 4 (Instr.if_icmp .ne) 34 7 := ⟨30, by decide +kernel, by decide, by decide, rfl⟩
theorem d4_7 : Dc jdk_43_method_13_code 7 (.iconst 0) 1 8 := ⟨by decide +kernel, rfl⟩
theorem d4_8 : Dc jdk_43_method_13_code 8 (.istore_n 2) 1 9 := ⟨by decide +kernel, rfl⟩
theorem d4_9 : Dc jdk_43_method_13_code 9 (.iload_n 2) 1 10 := ⟨by decide +kernel, rfl⟩
theorem d4_10 : Dc jdk_43_method_13_code 10 (.aload_n 0) 1 11 := ⟨by decide +kernel, rfl⟩
theorem d4_11 : Dc jdk_43_method_13_code 11 (.arraylength) 1 12 := ⟨by decide +kernel, rfl⟩
theorem d4_12 : Bi jdk_43_method_13_code 12 (Instr.if_icmp .ge) 32 15 := ⟨20, by decide +kernel, by decide, by decide, rfl⟩
theorem d4_15 : Dc jdk_43_method_13_code 15 (.aload_n 0) 1 16 := ⟨by decide +kernel, rfl⟩
theorem d4_16 : Dc jdk_43_method_13_code 16 (.iload_n 2) 1 17 := ⟨by decide +kernel, rfl⟩
theorem d4_17 : Dc jdk_43_method_13_code 17 (.baload) 1 18 := ⟨by decide +kernel, rfl⟩
theorem d4_18 : Dc jdk_43_method_13_code 18 (.aload_n 1) 1 19 := ⟨by decide +kernel, rfl⟩
theorem d4_19 : Dc jdk_43_method_13_code 19 (.iload_n 2) 1 20 := ⟨by decide +kernel, rfl⟩
theorem d4_20 : Dc jdk_43_method_13_code 20 (.baload) 1 21 := ⟨by decide +kernel, rfl⟩
theorem d4_21 : Bi jdk_43_method_13_code 21 (Instr.if_icmp .eq) 26 24 := ⟨5, by decide +kernel, by decide, by decide, rfl⟩
theorem d4_24 : Dc jdk_43_method_13_code 24 (.iconst 0) 1 25 := ⟨by decide +kernel, rfl⟩
theorem d4_25 : Dc jdk_43_method_13_code 25 (.ireturn) 1 26 := ⟨by decide +kernel, rfl⟩
theorem pn_ra6 : plainName "java/lang/StringLatin1" = true := by first | (simp [plainName, overriddenIn]; done) | decide +kernel
set_option maxRecDepth 65536 in
set_option maxHeartbeats 40000000 in
theorem ra6 (l : Launch) (Z : State) (a0 : Array Value) (hw : ∀ d ∈ tables_1, d.before a0 Z = true) (h0 : Heap) (OL : Old Z Z.heap.size h0) (tv th sv sh bv bh : Addr) (cv ch : ClassId) (cs : Int32) (XV : Sta Z Z.heap "com/example/orthogon/orthogon/rules/LinagePlayer" "VERTICAL" "Lcom/example/orthogon/orthogon/rules/LinagePlayer;" (.ref tv)) (XH : Sta Z Z.heap "com/example/orthogon/orthogon/rules/LinagePlayer" "HORIZONTAL" "Lcom/example/orthogon/orthogon/rules/LinagePlayer;" (.ref th)) (SCS : Sta Z Z.heap "java/lang/String" "COMPACT_STRINGS" "Z" (.int cs)) (ncs : ¬ cs = 0) (net : tv ≠ th) (nes : sv ≠ sh) (Tv : ObL Z Z.heap tv (.ref sv)) (Sv : ObS Z Z.heap sv (.int (0 : Int32)) (.ref bv)) (Av : Arv Z Z.heap bv cv .byte (1 : Int32) [(.int (66 : Int32))] (.int (0 : Int32))) (Th : ObL Z Z.heap th (.ref sh)) (Sh : ObS Z Z.heap sh (.int (0 : Int32)) (.ref bh)) (Ah : Arv Z Z.heap bh ch .byte (1 : Int32) [(.int (87 : Int32))] (.int (0 : Int32)))  :
    Met l Z (⟨"java/lang/StringLatin1", "equals", "([B[B)Z"⟩ : MethodName) jdk_43_method_13_code 3 (some .boolean) ({ frames := 0, cells := 0, slots := 0, locals := 0 } : Room) #[(.ref bv), (.ref bh)] h0 (fun v h' => (v = some (.int (0 : Int32)) ∧ h0 = h')) := by
  refine met_of (Ls := #[.val (.ref bv), .val (.ref bh), .unset]) (plainFor_of_name pn_ra6) (fun m => by first | (simp [entryFrame, mkF, argsToLocals, Value.category]; done) | rfl) (fun p e s m below meth c cx => ?_)
  have KK := Keep.refl h0 []
  have A_bv := Av.ext OL.2
  have O_sv := Sv.ext OL.2
  have O_tv := Tv.ext OL.2
  have A_bh := Ah.ext OL.2
  have O_sh := Sh.ext OL.2
  have O_th := Th.ext OL.2
  refine g_aloadN cx d4_0 rfl rfl ?_
  refine g_arraylength cx d4_1 A_bv ?_
  refine g_aloadN cx d4_2 rfl rfl ?_
  refine g_arraylength cx d4_3 A_bh ?_
  refine g_icmp_ne cx d4_4 (fun q => absurd q (fun q => by revert q; decide)) (fun hc4 => ?_)
  refine g_iconst cx d4_7 (v := (0 : Int32)) rfl ?_
  refine g_istoreN cx d4_8 (Ls' := #[.val (.ref bv), .val (.ref bh), .val (.int (0 : Int32))]) rfl ?_
  refine g_iloadN cx d4_9 rfl ?_
  refine g_aloadN cx d4_10 rfl rfl ?_
  refine g_arraylength cx d4_11 A_bv ?_
  refine g_icmp_ge cx d4_12 (fun q => absurd q (fun q => by revert q; decide)) (fun hc12 => ?_)
  refine g_aloadN cx d4_15 rfl rfl ?_
  refine g_iloadN cx d4_16 rfl ?_
  refine g_baload cx d4_17 A_bv ⟨by decide, by decide⟩ (v := (.int (66 : Int32))) rfl ?_
  refine g_aloadN cx d4_18 rfl rfl ?_
  refine g_iloadN cx d4_19 rfl ?_
  refine g_baload cx d4_20 A_bh ⟨by decide, by decide⟩ (v := (.int (87 : Int32))) rfl ?_
  refine g_icmp_eq cx d4_21 (fun q => absurd q (fun q => by revert q; decide)) (fun hc21 => ?_)
  refine g_iconst cx d4_24 (v := (0 : Int32)) rfl ?_
  refine g_retZ cx d4_25 rfl rfl (by decide) (by decide) ?_
  exact ⟨rfl, rfl⟩
theorem pd_2 : parseMethodDescriptor "([B[B)Z" = some ⟨[(.array .byte), (.array .byte)], some .boolean⟩ := by decide +kernel
theorem d3_44 : Dc jdk_42_method_66_code 44 (.invokestatic 541) 3 47 := ⟨by decide +kernel, rfl⟩
theorem d3_47 : Bi jdk_42_method_66_code 47 (Instr.ifCond .eq) 54 50 := ⟨7, by decide +kernel, by decide, by decide, rfl⟩
theorem d3_54 : Dc jdk_42_method_66_code 54 (.iconst 0) 1 55 := ⟨by decide +kernel, rfl⟩
theorem d3_55 : Dc jdk_42_method_66_code 55 (.ireturn) 1 56 := ⟨by decide +kernel, rfl⟩
theorem pn_ra5 : plainName "java/lang/String" = true := by first | (simp [plainName, overriddenIn]; done) | decide +kernel
set_option maxRecDepth 65536 in
set_option maxHeartbeats 40000000 in
theorem ra5 (l : Launch) (Z : State) (a0 : Array Value) (hw : ∀ d ∈ tables_1, d.before a0 Z = true) (h0 : Heap) (OL : Old Z Z.heap.size h0) (tv th sv sh bv bh : Addr) (cv ch : ClassId) (cs : Int32) (XV : Sta Z Z.heap "com/example/orthogon/orthogon/rules/LinagePlayer" "VERTICAL" "Lcom/example/orthogon/orthogon/rules/LinagePlayer;" (.ref tv)) (XH : Sta Z Z.heap "com/example/orthogon/orthogon/rules/LinagePlayer" "HORIZONTAL" "Lcom/example/orthogon/orthogon/rules/LinagePlayer;" (.ref th)) (SCS : Sta Z Z.heap "java/lang/String" "COMPACT_STRINGS" "Z" (.int cs)) (ncs : ¬ cs = 0) (net : tv ≠ th) (nes : sv ≠ sh) (Tv : ObL Z Z.heap tv (.ref sv)) (Sv : ObS Z Z.heap sv (.int (0 : Int32)) (.ref bv)) (Av : Arv Z Z.heap bv cv .byte (1 : Int32) [(.int (66 : Int32))] (.int (0 : Int32))) (Th : ObL Z Z.heap th (.ref sh)) (Sh : ObS Z Z.heap sh (.int (0 : Int32)) (.ref bh)) (Ah : Arv Z Z.heap bh ch .byte (1 : Int32) [(.int (87 : Int32))] (.int (0 : Int32)))  :
    Met l Z (⟨"java/lang/String", "equals", "(Ljava/lang/Object;)Z"⟩ : MethodName) jdk_42_method_66_code 3 (some .boolean) ({ frames := 1, cells := 0, slots := 0, locals := 14 } : Room) #[(.ref sv), (.ref sh)] h0 (fun v h' => (¬ (((.ref sv) : Value) = (.ref sh)) ∧ ¬ (cs = (0 : Int32)) ∧ v = some (.int (0 : Int32)) ∧ h0 = h')) := by
  refine met_of (Ls := #[.val (.ref sv), .val (.ref sh), .unset]) (plainFor_of_name pn_ra5) (fun m => by first | (simp [entryFrame, mkF, argsToLocals, Value.category]; done) | rfl) (fun p e s m below meth c cx => ?_)
  have KK := Keep.refl h0 []
  have A_bv := Av.ext OL.2
  have O_sv := Sv.ext OL.2
  have O_tv := Tv.ext OL.2
  have A_bh := Ah.ext OL.2
  have O_sh := Sh.ext OL.2
  have O_th := Th.ext OL.2
  refine g_aloadN cx d3_0 rfl rfl ?_
  refine g_aloadN cx d3_1 rfl rfl ?_
  refine g_acmp_ne cx rfl rfl d3_2 (fun hc2 => ?_) (fun q => absurd q (fun q => nes (Value.ref.inj q)))
  refine g_aloadN cx d3_7 rfl rfl ?_
  refine g_instanceY cx d3_8 (hw _ (List.mem_of_getElem? (i := 24) rfl)) (Ins.self O_sh.1) ?_
  refine g_if_eq cx d3_11 (fun q => absurd q (fun q => by revert q; decide)) (fun hc11 => ?_)
  refine g_aloadN cx d3_14 rfl rfl ?_
  refine g_checkcast cx d3_15 (hw _ (List.mem_of_getElem? (i := 24) rfl)) (Ins.self O_sh.1) ?_
  refine g_astoreN cx d3_18 rfl (Ls' := #[.val (.ref sv), .val (.ref sh), .val (.ref sh)]) rfl ?_
  refine g_getS cx d3_19 (host := "") (Or.inl (hw _ (List.mem_of_getElem? (i := 26) rfl))) Via.refl (SCS.ext OL.2) ?_
  refine g_if_eq cx d3_22 (fun q => absurd q (fun q => ncs q)) (fun hc22 => ?_)
  refine g_aloadN cx d3_25 rfl rfl ?_
  refine g_getF cx d3_26 (host := "") (Or.inl (hw _ (List.mem_of_getElem? (i := 27) rfl))) Via.refl O_sv.2.1 ?_
  refine g_aloadN cx d3_29 rfl rfl ?_
  refine g_getF cx d3_30 (host := "") (Or.inl (hw _ (List.mem_of_getElem? (i := 27) rfl))) Via.refl O_sh.2.1 ?_
  refine g_icmp_ne cx d3_33 (fun q => absurd q (fun q => by revert q; decide)) (fun hc33 => ?_)
  refine g_aloadN cx d3_36 rfl rfl ?_
  refine g_getF cx d3_37 (host := "") (Or.inl (hw _ (List.mem_of_getElem? (i := 29) rfl))) Via.refl O_sv.2.2 ?_
  refine g_aloadN cx d3_40 rfl rfl ?_
  refine g_getF cx d3_41 (host := "") (Or.inl (hw _ (List.mem_of_getElem? (i := 29) rfl))) Via.refl O_sh.2.2 ?_
  refine g_static cx (y := (⟨"java/lang/StringLatin1", "equals", "([B[B)Z"⟩ : MethodName)) d3_44 (hw _ (List.mem_of_getElem? (i := 31) rfl)) (hw _ (List.mem_of_getElem? (i := 32) rfl)) (hw _ (List.mem_of_getElem? (i := 33) rfl)) (hw _ (List.mem_of_getElem? (i := 34) rfl)) (by decide) (bytes := jdk_43_method_13_code) (maxL' := 3) (M := (ra6 l Z a0 hw  _  OL tv th sv sh bv bh cv ch cs XV XH SCS ncs net nes Tv Sv Av Th Sh Ah)) rfl (lenOf pd_2 rfl) (by decide) (W := 0) (Nat.le_of_eq rfl) (by decide) (k' := 0) (n' := 0) rfl rfl (by decide) (by decide) (argsL := [(.ref bv), (.ref bh)]) (rest := []) rfl (fun v3 h2 q4 => ?_)
  obtain ⟨rfl, rfl⟩ := q4
  refine G.cast (st' := [(.int (0 : Int32))]) ?_ rfl
  refine g_if_eq cx d3_47 (fun hc47 => ?_) (fun q => absurd q (fun q => by revert q; decide))
  refine g_iconst cx d3_54 (v := (0 : Int32)) rfl ?_
  refine g_retZ cx d3_55 rfl rfl (by decide) (by decide) ?_
  exact ⟨hc2, hc22, rfl, rfl⟩
theorem pd_3 : parseMethodDescriptor "(Ljava/lang/Object;)Z" = some ⟨[(.object "java/lang/Object")], some .boolean⟩ := by decide +kernel
theorem d0_50 : Dc code 50 (.invokevirtual 24) 3 53 := ⟨by decide +kernel, rfl⟩
theorem d0_53 : Bi code 53 (Instr.ifCond .ne) 60 56 := ⟨7, by decide +kernel, by decide, by decide, rfl⟩
theorem d0_56 : Dc code 56 (.iconst 1) 1 57 := ⟨by decide +kernel, rfl⟩
theorem d0_57 : Bi code 57 (Instr.goto) 61 60 := ⟨4, by decide +kernel, by decide, by decide, rfl⟩
theorem d0_61 : Dc code 61 (.ireturn) 1 62 := ⟨by decide +kernel, rfl⟩
theorem d0_6 : Dc code 6 (.getstatic 7) 3 9 := ⟨by decide +kernel, rfl⟩
theorem d0_9 : Bi code 9 (Instr.goto) 15 12 := ⟨6, by decide +kernel, by decide, by decide, rfl⟩
theorem pn_ra8 : plainName "java/lang/StringLatin1" = true := by first | (simp [plainName, overriddenIn]; done) | decide +kernel
set_option maxRecDepth 65536 in
set_option maxHeartbeats 40000000 in
theorem ra8 (l : Launch) (Z : State) (a0 : Array Value) (hw : ∀ d ∈ tables_1, d.before a0 Z = true) (h0 : Heap) (OL : Old Z Z.heap.size h0) (tv th sv sh bv bh : Addr) (cv ch : ClassId) (cs : Int32) (XV : Sta Z Z.heap "com/example/orthogon/orthogon/rules/LinagePlayer" "VERTICAL" "Lcom/example/orthogon/orthogon/rules/LinagePlayer;" (.ref tv)) (XH : Sta Z Z.heap "com/example/orthogon/orthogon/rules/LinagePlayer" "HORIZONTAL" "Lcom/example/orthogon/orthogon/rules/LinagePlayer;" (.ref th)) (SCS : Sta Z Z.heap "java/lang/String" "COMPACT_STRINGS" "Z" (.int cs)) (ncs : ¬ cs = 0) (net : tv ≠ th) (nes : sv ≠ sh) (Tv : ObL Z Z.heap tv (.ref sv)) (Sv : ObS Z Z.heap sv (.int (0 : Int32)) (.ref bv)) (Av : Arv Z Z.heap bv cv .byte (1 : Int32) [(.int (66 : Int32))] (.int (0 : Int32))) (Th : ObL Z Z.heap th (.ref sh)) (Sh : ObS Z Z.heap sh (.int (0 : Int32)) (.ref bh)) (Ah : Arv Z Z.heap bh ch .byte (1 : Int32) [(.int (87 : Int32))] (.int (0 : Int32)))  :
    Met l Z (⟨"java/lang/StringLatin1", "equals", "([B[B)Z"⟩ : MethodName) jdk_43_method_13_code 3 (some .boolean) ({ frames := 0, cells := 0, slots := 0, locals := 0 } : Room) #[(.ref bh), (.ref bv)] h0 (fun v h' => (v = some (.int (0 : Int32)) ∧ h0 = h')) := by
  refine met_of (Ls := #[.val (.ref bh), .val (.ref bv), .unset]) (plainFor_of_name pn_ra8) (fun m => by first | (simp [entryFrame, mkF, argsToLocals, Value.category]; done) | rfl) (fun p e s m below meth c cx => ?_)
  have KK := Keep.refl h0 []
  have A_bv := Av.ext OL.2
  have O_sv := Sv.ext OL.2
  have O_tv := Tv.ext OL.2
  have A_bh := Ah.ext OL.2
  have O_sh := Sh.ext OL.2
  have O_th := Th.ext OL.2
  refine g_aloadN cx d4_0 rfl rfl ?_
  refine g_arraylength cx d4_1 A_bh ?_
  refine g_aloadN cx d4_2 rfl rfl ?_
  refine g_arraylength cx d4_3 A_bv ?_
  refine g_icmp_ne cx d4_4 (fun q => absurd q (fun q => by revert q; decide)) (fun hc4 => ?_)
  refine g_iconst cx d4_7 (v := (0 : Int32)) rfl ?_
  refine g_istoreN cx d4_8 (Ls' := #[.val (.ref bh), .val (.ref bv), .val (.int (0 : Int32))]) rfl ?_
  refine g_iloadN cx d4_9 rfl ?_
  refine g_aloadN cx d4_10 rfl rfl ?_
  refine g_arraylength cx d4_11 A_bh ?_
  refine g_icmp_ge cx d4_12 (fun q => absurd q (fun q => by revert q; decide)) (fun hc12 => ?_)
  refine g_aloadN cx d4_15 rfl rfl ?_
  refine g_iloadN cx d4_16 rfl ?_
  refine g_baload cx d4_17 A_bh ⟨by decide, by decide⟩ (v := (.int (87 : Int32))) rfl ?_
  refine g_aloadN cx d4_18 rfl rfl ?_
  refine g_iloadN cx d4_19 rfl ?_
  refine g_baload cx d4_20 A_bv ⟨by decide, by decide⟩ (v := (.int (66 : Int32))) rfl ?_
  refine g_icmp_eq cx d4_21 (fun q => absurd q (fun q => by revert q; decide)) (fun hc21 => ?_)
  refine g_iconst cx d4_24 (v := (0 : Int32)) rfl ?_
  refine g_retZ cx d4_25 rfl rfl (by decide) (by decide) ?_
  exact ⟨rfl, rfl⟩
theorem pn_ra7 : plainName "java/lang/String" = true := by first | (simp [plainName, overriddenIn]; done) | decide +kernel
set_option maxRecDepth 65536 in
set_option maxHeartbeats 40000000 in
theorem ra7 (l : Launch) (Z : State) (a0 : Array Value) (hw : ∀ d ∈ tables_1, d.before a0 Z = true) (h0 : Heap) (OL : Old Z Z.heap.size h0) (tv th sv sh bv bh : Addr) (cv ch : ClassId) (cs : Int32) (XV : Sta Z Z.heap "com/example/orthogon/orthogon/rules/LinagePlayer" "VERTICAL" "Lcom/example/orthogon/orthogon/rules/LinagePlayer;" (.ref tv)) (XH : Sta Z Z.heap "com/example/orthogon/orthogon/rules/LinagePlayer" "HORIZONTAL" "Lcom/example/orthogon/orthogon/rules/LinagePlayer;" (.ref th)) (SCS : Sta Z Z.heap "java/lang/String" "COMPACT_STRINGS" "Z" (.int cs)) (ncs : ¬ cs = 0) (net : tv ≠ th) (nes : sv ≠ sh) (Tv : ObL Z Z.heap tv (.ref sv)) (Sv : ObS Z Z.heap sv (.int (0 : Int32)) (.ref bv)) (Av : Arv Z Z.heap bv cv .byte (1 : Int32) [(.int (66 : Int32))] (.int (0 : Int32))) (Th : ObL Z Z.heap th (.ref sh)) (Sh : ObS Z Z.heap sh (.int (0 : Int32)) (.ref bh)) (Ah : Arv Z Z.heap bh ch .byte (1 : Int32) [(.int (87 : Int32))] (.int (0 : Int32)))  :
    Met l Z (⟨"java/lang/String", "equals", "(Ljava/lang/Object;)Z"⟩ : MethodName) jdk_42_method_66_code 3 (some .boolean) ({ frames := 1, cells := 0, slots := 0, locals := 14 } : Room) #[(.ref sh), (.ref sv)] h0 (fun v h' => (¬ (((.ref sh) : Value) = (.ref sv)) ∧ ¬ (cs = (0 : Int32)) ∧ v = some (.int (0 : Int32)) ∧ h0 = h')) := by
  refine met_of (Ls := #[.val (.ref sh), .val (.ref sv), .unset]) (plainFor_of_name pn_ra7) (fun m => by first | (simp [entryFrame, mkF, argsToLocals, Value.category]; done) | rfl) (fun p e s m below meth c cx => ?_)
  have KK := Keep.refl h0 []
  have A_bv := Av.ext OL.2
  have O_sv := Sv.ext OL.2
  have O_tv := Tv.ext OL.2
  have A_bh := Ah.ext OL.2
  have O_sh := Sh.ext OL.2
  have O_th := Th.ext OL.2
  refine g_aloadN cx d3_0 rfl rfl ?_
  refine g_aloadN cx d3_1 rfl rfl ?_
  refine g_acmp_ne cx rfl rfl d3_2 (fun hc2 => ?_) (fun q => absurd q (fun q => nes (Value.ref.inj q).symm))
  refine g_aloadN cx d3_7 rfl rfl ?_
  refine g_instanceY cx d3_8 (hw _ (List.mem_of_getElem? (i := 24) rfl)) (Ins.self O_sv.1) ?_
  refine g_if_eq cx d3_11 (fun q => absurd q (fun q => by revert q; decide)) (fun hc11 => ?_)
  refine g_aloadN cx d3_14 rfl rfl ?_
  refine g_checkcast cx d3_15 (hw _ (List.mem_of_getElem? (i := 24) rfl)) (Ins.self O_sv.1) ?_
  refine g_astoreN cx d3_18 rfl (Ls' := #[.val (.ref sh), .val (.ref sv), .val (.ref sv)]) rfl ?_
  refine g_getS cx d3_19 (host := "") (Or.inl (hw _ (List.mem_of_getElem? (i := 26) rfl))) Via.refl (SCS.ext OL.2) ?_
  refine g_if_eq cx d3_22 (fun q => absurd q (fun q => ncs q)) (fun hc22 => ?_)
  refine g_aloadN cx d3_25 rfl rfl ?_
  refine g_getF cx d3_26 (host := "") (Or.inl (hw _ (List.mem_of_getElem? (i := 27) rfl))) Via.refl O_sh.2.1 ?_
  refine g_aloadN cx d3_29 rfl rfl ?_
  refine g_getF cx d3_30 (host := "") (Or.inl (hw _ (List.mem_of_getElem? (i := 27) rfl))) Via.refl O_sv.2.1 ?_
  refine g_icmp_ne cx d3_33 (fun q => absurd q (fun q => by revert q; decide)) (fun hc33 => ?_)
  refine g_aloadN cx d3_36 rfl rfl ?_
  refine g_getF cx d3_37 (host := "") (Or.inl (hw _ (List.mem_of_getElem? (i := 29) rfl))) Via.refl O_sh.2.2 ?_
  refine g_aloadN cx d3_40 rfl rfl ?_
  refine g_getF cx d3_41 (host := "") (Or.inl (hw _ (List.mem_of_getElem? (i := 29) rfl))) Via.refl O_sv.2.2 ?_
  refine g_static cx (y := (⟨"java/lang/StringLatin1", "equals", "([B[B)Z"⟩ : MethodName)) d3_44 (hw _ (List.mem_of_getElem? (i := 31) rfl)) (hw _ (List.mem_of_getElem? (i := 32) rfl)) (hw _ (List.mem_of_getElem? (i := 33) rfl)) (hw _ (List.mem_of_getElem? (i := 34) rfl)) (by decide) (bytes := jdk_43_method_13_code) (maxL' := 3) (M := (ra8 l Z a0 hw  _  OL tv th sv sh bv bh cv ch cs XV XH SCS ncs net nes Tv Sv Av Th Sh Ah)) rfl (lenOf pd_2 rfl) (by decide) (W := 0) (Nat.le_of_eq rfl) (by decide) (k' := 0) (n' := 0) rfl rfl (by decide) (by decide) (argsL := [(.ref bh), (.ref bv)]) (rest := []) rfl (fun v3 h2 q4 => ?_)
  obtain ⟨rfl, rfl⟩ := q4
  refine G.cast (st' := [(.int (0 : Int32))]) ?_ rfl
  refine g_if_eq cx d3_47 (fun hc47 => ?_) (fun q => absurd q (fun q => by revert q; decide))
  refine g_iconst cx d3_54 (v := (0 : Int32)) rfl ?_
  refine g_retZ cx d3_55 rfl rfl (by decide) (by decide) ?_
  exact ⟨hc2, hc22, rfl, rfl⟩
theorem pn_rm0 : plainName "com/example/orthogon/orthogon/rules/LinagePlayerOpponentPinLaw" = true := by first | (simp [plainName, overriddenIn]; done) | decide +kernel
set_option maxRecDepth 65536 in
set_option maxHeartbeats 40000000 in
theorem rm0 (l : Launch) (Z : State) (a0 : Array Value) (hw : ∀ d ∈ tables_1, d.before a0 Z = true) (fl : Int32) (h0 : Heap) (OL : Old Z Z.heap.size h0) (tv th sv sh bv bh : Addr) (cv ch : ClassId) (cs : Int32) (XV : Sta Z Z.heap "com/example/orthogon/orthogon/rules/LinagePlayer" "VERTICAL" "Lcom/example/orthogon/orthogon/rules/LinagePlayer;" (.ref tv)) (XH : Sta Z Z.heap "com/example/orthogon/orthogon/rules/LinagePlayer" "HORIZONTAL" "Lcom/example/orthogon/orthogon/rules/LinagePlayer;" (.ref th)) (SCS : Sta Z Z.heap "java/lang/String" "COMPACT_STRINGS" "Z" (.int cs)) (ncs : ¬ cs = 0) (net : tv ≠ th) (nes : sv ≠ sh) (Tv : ObL Z Z.heap tv (.ref sv)) (Sv : ObS Z Z.heap sv (.int (0 : Int32)) (.ref bv)) (Av : Arv Z Z.heap bv cv .byte (1 : Int32) [(.int (66 : Int32))] (.int (0 : Int32))) (Th : ObL Z Z.heap th (.ref sh)) (Sh : ObS Z Z.heap sh (.int (0 : Int32)) (.ref bh)) (Ah : Arv Z Z.heap bh ch .byte (1 : Int32) [(.int (87 : Int32))] (.int (0 : Int32)))  :
    Met l Z x code maxLocals ret room_1 #[(.int fl)] h0 (fun v _ => v = some (.int 1)) := by
  refine met_of (Ls := #[.val (.int fl), .unset, .unset]) (plainFor_of_name pn_rm0) (fun m => by first | (simp [entryFrame, mkF, argsToLocals, Value.category, maxLocals]; done) | rfl) (fun p e s m below meth c cx => ?_)
  have A_bv := Av.ext OL.2
  have O_sv := Sv.ext OL.2
  have O_tv := Tv.ext OL.2
  have A_bh := Ah.ext OL.2
  have O_sh := Sh.ext OL.2
  have O_th := Th.ext OL.2
  refine g_iloadN cx d0_0 rfl ?_
  refine g_iconst cx d0_1 (v := (1 : Int32)) rfl ?_
  refine g_iand cx d0_2 ?_
  refine g_if_eq cx d0_3 (fun hc3 => ?_) (fun hc3 => ?_)
  · refine g_getS cx d0_12 (host := "") (Or.inl (hw _ (List.mem_of_getElem? (i := 0) rfl))) Via.refl (XH.ext OL.2) ?_
    refine g_astoreN cx d0_15 rfl (Ls' := #[.val (.int fl), .val (.ref th), .unset]) rfl ?_
    refine g_aloadN cx d0_16 rfl rfl ?_
    refine g_virtual cx (y := (⟨"com/example/orthogon/orthogon/rules/LinagePlayer", "opponent", "()Lcom/example/orthogon/orthogon/rules/LinagePlayer;"⟩ : MethodName)) (z := (⟨"com/example/orthogon/orthogon/rules/LinagePlayer", "opponent", "()Lcom/example/orthogon/orthogon/rules/LinagePlayer;"⟩ : MethodName)) (a := th) d0_17 (hw _ (List.mem_of_getElem? (i := 3) rfl)) (hw _ (List.mem_of_getElem? (i := 4) rfl)) (hw _ (List.mem_of_getElem? (i := 1) rfl)) (hw _ (List.mem_of_getElem? (i := 7) rfl)) (hw _ (List.mem_of_getElem? (i := 6) rfl)) (hw _ (List.mem_of_getElem? (i := 5) rfl)) rfl (by decide) O_th.1 (bytes := prog_31_method_5_code) (maxL' := 1) (M := (ra1 l Z a0 hw  _  OL tv th sv sh bv bh cv ch cs XV XH SCS ncs net nes Tv Sv Av Th Sh Ah)) rfl (lenOf pd_0 rfl) (by decide) (W := 0) (Nat.le_of_eq rfl) (by decide) (k' := 0) (n' := 0) rfl rfl (by decide) (by decide) (argsL := []) (rest := []) rfl (fun v4 h3 q5 => ?_)
    obtain ⟨hq1, rfl, rfl⟩ := q5
    refine G.cast (st' := [(.ref tv)]) ?_ rfl
    refine g_astoreN cx d0_20 rfl (Ls' := #[.val (.int fl), .val (.ref th), .val (.ref tv)]) rfl ?_
    refine g_aloadN cx d0_21 rfl rfl ?_
    refine g_ifnull_ref cx d0_22 ?_
    refine g_aloadN cx d0_25 rfl rfl ?_
    refine g_aloadN cx d0_26 rfl rfl ?_
    refine g_acmp_ne cx rfl rfl d0_27 (fun hc27 => ?_) (fun q => absurd q (fun q => net (Value.ref.inj q)))
    refine g_aloadN cx d0_32 rfl rfl ?_
    refine g_virtual cx (y := (⟨"com/example/orthogon/orthogon/rules/LinagePlayer", "opponent", "()Lcom/example/orthogon/orthogon/rules/LinagePlayer;"⟩ : MethodName)) (z := (⟨"com/example/orthogon/orthogon/rules/LinagePlayer", "opponent", "()Lcom/example/orthogon/orthogon/rules/LinagePlayer;"⟩ : MethodName)) (a := tv) d0_33 (hw _ (List.mem_of_getElem? (i := 3) rfl)) (hw _ (List.mem_of_getElem? (i := 4) rfl)) (hw _ (List.mem_of_getElem? (i := 1) rfl)) (hw _ (List.mem_of_getElem? (i := 7) rfl)) (hw _ (List.mem_of_getElem? (i := 6) rfl)) (hw _ (List.mem_of_getElem? (i := 5) rfl)) rfl (by decide) O_tv.1 (bytes := prog_31_method_5_code) (maxL' := 1) (M := (ra2 l Z a0 hw  _  OL tv th sv sh bv bh cv ch cs XV XH SCS ncs net nes Tv Sv Av Th Sh Ah)) rfl (lenOf pd_0 rfl) (by decide) (W := 0) (Nat.le_of_eq rfl) (by decide) (k' := 0) (n' := 0) rfl rfl (by decide) (by decide) (argsL := []) (rest := []) rfl (fun v8 h7 q9 => ?_)
    obtain ⟨rfl, rfl⟩ := q9
    refine G.cast (st' := [(.ref th)]) ?_ rfl
    refine g_aloadN cx d0_36 rfl rfl ?_
    refine g_acmp_eq cx rfl rfl d0_37 (fun hc37 => ?_) (fun q => absurd q (fun q => q rfl))
    refine g_aloadN cx d0_42 rfl rfl ?_
    refine g_virtual cx (y := (⟨"com/example/orthogon/orthogon/rules/LinagePlayer", "property", "()Ljava/lang/String;"⟩ : MethodName)) (z := (⟨"com/example/orthogon/orthogon/rules/LinagePlayer", "property", "()Ljava/lang/String;"⟩ : MethodName)) (a := tv) d0_43 (hw _ (List.mem_of_getElem? (i := 11) rfl)) (hw _ (List.mem_of_getElem? (i := 12) rfl)) (hw _ (List.mem_of_getElem? (i := 1) rfl)) (hw _ (List.mem_of_getElem? (i := 15) rfl)) (hw _ (List.mem_of_getElem? (i := 14) rfl)) (hw _ (List.mem_of_getElem? (i := 13) rfl)) rfl (by decide) O_tv.1 (bytes := prog_31_method_4_code) (maxL' := 1) (M := (ra3 l Z a0 hw  _  OL tv th sv sh bv bh cv ch cs XV XH SCS ncs net nes Tv Sv Av Th Sh Ah)) rfl (lenOf pd_1 rfl) (by decide) (W := 0) (Nat.le_of_eq rfl) (by decide) (k' := 0) (n' := 0) rfl rfl (by decide) (by decide) (argsL := []) (rest := []) rfl (fun v12 h11 q13 => ?_)
    obtain ⟨rfl, rfl⟩ := q13
    refine G.cast (st' := [(.ref sv)]) ?_ rfl
    refine g_aloadN cx d0_46 rfl rfl ?_
    refine g_virtual cx (y := (⟨"com/example/orthogon/orthogon/rules/LinagePlayer", "property", "()Ljava/lang/String;"⟩ : MethodName)) (z := (⟨"com/example/orthogon/orthogon/rules/LinagePlayer", "property", "()Ljava/lang/String;"⟩ : MethodName)) (a := th) d0_47 (hw _ (List.mem_of_getElem? (i := 11) rfl)) (hw _ (List.mem_of_getElem? (i := 12) rfl)) (hw _ (List.mem_of_getElem? (i := 1) rfl)) (hw _ (List.mem_of_getElem? (i := 15) rfl)) (hw _ (List.mem_of_getElem? (i := 14) rfl)) (hw _ (List.mem_of_getElem? (i := 13) rfl)) rfl (by decide) O_th.1 (bytes := prog_31_method_4_code) (maxL' := 1) (M := (ra4 l Z a0 hw  _  OL tv th sv sh bv bh cv ch cs XV XH SCS ncs net nes Tv Sv Av Th Sh Ah)) rfl (lenOf pd_1 rfl) (by decide) (W := 1) (Nat.le_of_eq rfl) (by decide) (k' := 0) (n' := 0) rfl rfl (by decide) (by decide) (argsL := []) (rest := [(.ref sv)]) rfl (fun v16 h15 q17 => ?_)
    obtain ⟨rfl, rfl⟩ := q17
    refine G.cast (st' := [(.ref sh), (.ref sv)]) ?_ rfl
    refine g_virtual cx (y := (⟨"java/lang/String", "equals", "(Ljava/lang/Object;)Z"⟩ : MethodName)) (z := (⟨"java/lang/String", "equals", "(Ljava/lang/Object;)Z"⟩ : MethodName)) (a := sv) d0_50 (hw _ (List.mem_of_getElem? (i := 18) rfl)) (hw _ (List.mem_of_getElem? (i := 19) rfl)) (hw _ (List.mem_of_getElem? (i := 22) rfl)) (hw _ (List.mem_of_getElem? (i := 23) rfl)) (hw _ (List.mem_of_getElem? (i := 21) rfl)) (hw _ (List.mem_of_getElem? (i := 20) rfl)) rfl (by decide) O_sv.1 (bytes := jdk_42_method_66_code) (maxL' := 3) (M := (ra5 l Z a0 hw  _  OL tv th sv sh bv bh cv ch cs XV XH SCS ncs net nes Tv Sv Av Th Sh Ah)) rfl (lenOf pd_3 rfl) (by decide) (W := 0) (Nat.le_of_eq rfl) (by decide) (k' := 0) (n' := 0) rfl rfl (by decide) (by decide) (argsL := [(.ref sh)]) (rest := []) rfl (fun v22 h21 q23 => ?_)
    obtain ⟨hq18, hq19, rfl, rfl⟩ := q23
    refine G.cast (st' := [(.int (0 : Int32))]) ?_ rfl
    refine g_if_ne cx d0_53 (fun q => absurd q (fun q => by revert q; decide)) (fun hc53 => ?_)
    refine g_iconst cx d0_56 (v := (1 : Int32)) rfl ?_
    refine g_goto cx d0_57 ?_
    refine g_retZ cx d0_61 rfl rfl (by decide) (by decide) ?_
    rfl
  · refine g_getS cx d0_6 (host := "") (Or.inl (hw _ (List.mem_of_getElem? (i := 35) rfl))) Via.refl (XV.ext OL.2) ?_
    refine g_goto cx d0_9 ?_
    refine g_astoreN cx d0_15 rfl (Ls' := #[.val (.int fl), .val (.ref tv), .unset]) rfl ?_
    refine g_aloadN cx d0_16 rfl rfl ?_
    refine g_virtual cx (y := (⟨"com/example/orthogon/orthogon/rules/LinagePlayer", "opponent", "()Lcom/example/orthogon/orthogon/rules/LinagePlayer;"⟩ : MethodName)) (z := (⟨"com/example/orthogon/orthogon/rules/LinagePlayer", "opponent", "()Lcom/example/orthogon/orthogon/rules/LinagePlayer;"⟩ : MethodName)) (a := tv) d0_17 (hw _ (List.mem_of_getElem? (i := 3) rfl)) (hw _ (List.mem_of_getElem? (i := 4) rfl)) (hw _ (List.mem_of_getElem? (i := 1) rfl)) (hw _ (List.mem_of_getElem? (i := 7) rfl)) (hw _ (List.mem_of_getElem? (i := 6) rfl)) (hw _ (List.mem_of_getElem? (i := 5) rfl)) rfl (by decide) O_tv.1 (bytes := prog_31_method_5_code) (maxL' := 1) (M := (ra2 l Z a0 hw  _  OL tv th sv sh bv bh cv ch cs XV XH SCS ncs net nes Tv Sv Av Th Sh Ah)) rfl (lenOf pd_0 rfl) (by decide) (W := 0) (Nat.le_of_eq rfl) (by decide) (k' := 0) (n' := 0) rfl rfl (by decide) (by decide) (argsL := []) (rest := []) rfl (fun v26 h25 q27 => ?_)
    obtain ⟨rfl, rfl⟩ := q27
    refine G.cast (st' := [(.ref th)]) ?_ rfl
    refine g_astoreN cx d0_20 rfl (Ls' := #[.val (.int fl), .val (.ref tv), .val (.ref th)]) rfl ?_
    refine g_aloadN cx d0_21 rfl rfl ?_
    refine g_ifnull_ref cx d0_22 ?_
    refine g_aloadN cx d0_25 rfl rfl ?_
    refine g_aloadN cx d0_26 rfl rfl ?_
    refine g_acmp_ne cx rfl rfl d0_27 (fun hc27 => ?_) (fun q => absurd q (fun q => net (Value.ref.inj q).symm))
    refine g_aloadN cx d0_32 rfl rfl ?_
    refine g_virtual cx (y := (⟨"com/example/orthogon/orthogon/rules/LinagePlayer", "opponent", "()Lcom/example/orthogon/orthogon/rules/LinagePlayer;"⟩ : MethodName)) (z := (⟨"com/example/orthogon/orthogon/rules/LinagePlayer", "opponent", "()Lcom/example/orthogon/orthogon/rules/LinagePlayer;"⟩ : MethodName)) (a := th) d0_33 (hw _ (List.mem_of_getElem? (i := 3) rfl)) (hw _ (List.mem_of_getElem? (i := 4) rfl)) (hw _ (List.mem_of_getElem? (i := 1) rfl)) (hw _ (List.mem_of_getElem? (i := 7) rfl)) (hw _ (List.mem_of_getElem? (i := 6) rfl)) (hw _ (List.mem_of_getElem? (i := 5) rfl)) rfl (by decide) O_th.1 (bytes := prog_31_method_5_code) (maxL' := 1) (M := (ra1 l Z a0 hw  _  OL tv th sv sh bv bh cv ch cs XV XH SCS ncs net nes Tv Sv Av Th Sh Ah)) rfl (lenOf pd_0 rfl) (by decide) (W := 0) (Nat.le_of_eq rfl) (by decide) (k' := 0) (n' := 0) rfl rfl (by decide) (by decide) (argsL := []) (rest := []) rfl (fun v31 h30 q32 => ?_)
    obtain ⟨hq28, rfl, rfl⟩ := q32
    refine G.cast (st' := [(.ref tv)]) ?_ rfl
    refine g_aloadN cx d0_36 rfl rfl ?_
    refine g_acmp_eq cx rfl rfl d0_37 (fun hc37 => ?_) (fun q => absurd q (fun q => q rfl))
    refine g_aloadN cx d0_42 rfl rfl ?_
    refine g_virtual cx (y := (⟨"com/example/orthogon/orthogon/rules/LinagePlayer", "property", "()Ljava/lang/String;"⟩ : MethodName)) (z := (⟨"com/example/orthogon/orthogon/rules/LinagePlayer", "property", "()Ljava/lang/String;"⟩ : MethodName)) (a := th) d0_43 (hw _ (List.mem_of_getElem? (i := 11) rfl)) (hw _ (List.mem_of_getElem? (i := 12) rfl)) (hw _ (List.mem_of_getElem? (i := 1) rfl)) (hw _ (List.mem_of_getElem? (i := 15) rfl)) (hw _ (List.mem_of_getElem? (i := 14) rfl)) (hw _ (List.mem_of_getElem? (i := 13) rfl)) rfl (by decide) O_th.1 (bytes := prog_31_method_4_code) (maxL' := 1) (M := (ra4 l Z a0 hw  _  OL tv th sv sh bv bh cv ch cs XV XH SCS ncs net nes Tv Sv Av Th Sh Ah)) rfl (lenOf pd_1 rfl) (by decide) (W := 0) (Nat.le_of_eq rfl) (by decide) (k' := 0) (n' := 0) rfl rfl (by decide) (by decide) (argsL := []) (rest := []) rfl (fun v35 h34 q36 => ?_)
    obtain ⟨rfl, rfl⟩ := q36
    refine G.cast (st' := [(.ref sh)]) ?_ rfl
    refine g_aloadN cx d0_46 rfl rfl ?_
    refine g_virtual cx (y := (⟨"com/example/orthogon/orthogon/rules/LinagePlayer", "property", "()Ljava/lang/String;"⟩ : MethodName)) (z := (⟨"com/example/orthogon/orthogon/rules/LinagePlayer", "property", "()Ljava/lang/String;"⟩ : MethodName)) (a := tv) d0_47 (hw _ (List.mem_of_getElem? (i := 11) rfl)) (hw _ (List.mem_of_getElem? (i := 12) rfl)) (hw _ (List.mem_of_getElem? (i := 1) rfl)) (hw _ (List.mem_of_getElem? (i := 15) rfl)) (hw _ (List.mem_of_getElem? (i := 14) rfl)) (hw _ (List.mem_of_getElem? (i := 13) rfl)) rfl (by decide) O_tv.1 (bytes := prog_31_method_4_code) (maxL' := 1) (M := (ra3 l Z a0 hw  _  OL tv th sv sh bv bh cv ch cs XV XH SCS ncs net nes Tv Sv Av Th Sh Ah)) rfl (lenOf pd_1 rfl) (by decide) (W := 1) (Nat.le_of_eq rfl) (by decide) (k' := 0) (n' := 0) rfl rfl (by decide) (by decide) (argsL := []) (rest := [(.ref sh)]) rfl (fun v39 h38 q40 => ?_)
    obtain ⟨rfl, rfl⟩ := q40
    refine G.cast (st' := [(.ref sv), (.ref sh)]) ?_ rfl
    refine g_virtual cx (y := (⟨"java/lang/String", "equals", "(Ljava/lang/Object;)Z"⟩ : MethodName)) (z := (⟨"java/lang/String", "equals", "(Ljava/lang/Object;)Z"⟩ : MethodName)) (a := sh) d0_50 (hw _ (List.mem_of_getElem? (i := 18) rfl)) (hw _ (List.mem_of_getElem? (i := 19) rfl)) (hw _ (List.mem_of_getElem? (i := 22) rfl)) (hw _ (List.mem_of_getElem? (i := 23) rfl)) (hw _ (List.mem_of_getElem? (i := 21) rfl)) (hw _ (List.mem_of_getElem? (i := 20) rfl)) rfl (by decide) O_sh.1 (bytes := jdk_42_method_66_code) (maxL' := 3) (M := (ra7 l Z a0 hw  _  OL tv th sv sh bv bh cv ch cs XV XH SCS ncs net nes Tv Sv Av Th Sh Ah)) rfl (lenOf pd_3 rfl) (by decide) (W := 0) (Nat.le_of_eq rfl) (by decide) (k' := 0) (n' := 0) rfl rfl (by decide) (by decide) (argsL := [(.ref sv)]) (rest := []) rfl (fun v45 h44 q46 => ?_)
    obtain ⟨hq41, hq42, rfl, rfl⟩ := q46
    refine G.cast (st' := [(.int (0 : Int32))]) ?_ rfl
    refine g_if_ne cx d0_53 (fun q => absurd q (fun q => by revert q; decide)) (fun hc53 => ?_)
    refine g_iconst cx d0_56 (v := (1 : Int32)) rfl ?_
    refine g_goto cx d0_57 ?_
    refine g_retZ cx d0_61 rfl rfl (by decide) (by decide) ?_
    rfl
set_option maxRecDepth 65536 in
set_option maxHeartbeats 40000000 in
theorem comes_1 {Post : Tables → Env → Array Value → State → Outcome → State → Prop} (hpost : ∀ tb e args s v u, (limb_1_1.after args s (.returned v) u = true ∧ limb_1_2.after args s (.returned v) u = true ∧ True) → FrameEnd s (.returned v) u (Jvm.fieldLocs frame_1_writes args s ++ Jvm.arrayLocs frame_1_arrays args s ++ Jvm.staticLocs frame_1_statics s) 0 0 → Post tb e args s (.returned v) u) :
    ArmFor flags0 classFile x code maxLocals ret World_1 tables_1 room_1 Calls_1 rest_1 Pre_1 Post := by
  intro l hfl _ _ p e ha hc hk s m args below hf hA hF happ hP
  obtain ⟨hcalls, hrest, hpre⟩ := hP
  obtain ⟨-, -, -, hnamed, -, -, -, hat⟩ := (Spec.applies_iff hf).mp happ
  obtain ⟨hg, hn⟩ := and_e (Cond.before_iff.mp (show (Jvm.Cond.and given_1 narrow_1).before args s = true from hpre))
  obtain ⟨g1, g2⟩ := and_e hg
  obtain ⟨w0, rfl⟩ : ∃ w0 : Value, args = #[w0] := by
    have hs : args.size = 1 := by simpa [Cond.value, given_1] using g1
    obtain ⟨L⟩ := args
    match L, hs with
    | [w0], _ => exact ⟨w0, rfl⟩
  have hw := fun d (hd : d ∈ tables_1) => atoms_spec (ws := Jvm.Cond.code x code maxLocals ret :: tables_1) hat d (List.mem_cons_of_mem _ hd)
  have hfit : Fit s := fun {y c} hc i hi => by
    obtain ⟨ha, rfl⟩ := Array.getElem?_eq_some_iff.mp hc
    have q := List.all_eq_true.mp ((Array.all_eq_true_iff_forall_mem.mp hF) _ (Array.getElem_mem ha)) i (List.mem_range.mpr hi)
    simpa [Array.getElem?_eq_getElem hi] using q
  obtain ⟨i0, ei0⟩ := is_v g2
  obtain rfl : w0 = (.int i0) := Option.some.inj ei0
  obtain ⟨n0, hn⟩ := and_e hn
  obtain ⟨n1, hn⟩ := and_e hn
  obtain ⟨n2, hn⟩ := and_e hn
  obtain ⟨n3, hn⟩ := and_e hn
  obtain ⟨n4, hn⟩ := and_e hn
  obtain ⟨n5, hn⟩ := and_e hn
  obtain ⟨n6, hn⟩ := and_e hn
  obtain ⟨n7, hn⟩ := and_e hn
  obtain ⟨n8, hn⟩ := and_e hn
  obtain ⟨n9, hn⟩ := and_e hn
  obtain ⟨n10, hn⟩ := and_e hn
  obtain ⟨n11, hn⟩ := and_e hn
  obtain ⟨n12, hn⟩ := and_e hn
  obtain ⟨n13, hn⟩ := and_e hn
  have n14 := hn
  obtain ⟨hsets, hown0⟩ := atoms_of _ (rest_1_c_eq ▸ (show rest_1_c.before _ s = true from hrest))
  obtain ⟨cs, SCS, ecs⟩ := sta_int (hsets _ (List.mem_of_getElem? (i := 0) rfl)) (hsets _ (List.mem_of_getElem? (i := 1) rfl))
  obtain ⟨tv, Xv, Ev, evv⟩ := sta_exa n1 (hw _ (List.mem_of_getElem? (i := 1) rfl)) (hw _ (List.mem_of_getElem? (i := 9) rfl))
  have Fv := fld_eq evv n3
  obtain ⟨sv, Pv, Esv, evsv⟩ := fld_exa evv n4
  have Cv := fld_eq evsv n7
  obtain ⟨bv, clv, Vv, evbv, Abv, szv, szv'⟩ := fld_arr evsv n9 n10
  have Lv := elem_eq evbv Abv n13
  obtain ⟨th, Xh, Eh, evh⟩ := sta_exa n0 (hw _ (List.mem_of_getElem? (i := 1) rfl)) (hw _ (List.mem_of_getElem? (i := 2) rfl))
  have Fh := fld_eq evh n2
  obtain ⟨sh, Ph, Esh, evsh⟩ := fld_exa evh n5
  have Ch := fld_eq evsh n8
  obtain ⟨bh, clh, Vh, evbh, Abh, szh, szh'⟩ := fld_arr evsh n11 n12
  have Lh := elem_eq evbh Abh n14
  have nes : sv ≠ sh := fun z => by
    have q := not_v n6
    subst z
    simp [Cond.value, evsh, evsv] at q
  obtain ⟨n, o, h1, h2, h3, _, L, rfl, ⟨rfl, N⟩, hq⟩ := rm0 l s _ hw i0 s.heap (Old.start s) tv th sv sh bv bh clv.cls clh.cls cs Xv Xh SCS (ne_of_not ecs (hsets _ (List.mem_of_getElem? (i := 2) rfl))) (Fld.ne Fv Fh (by decide)) nes ⟨Ev, Pv⟩ ⟨Esv, Cv, Vv⟩ (Arv.start hfit Abv szv szv' (by decide) rfl ⟨Lv, trivial⟩) ⟨Eh, Ph⟩ ⟨Esh, Ch, Vh⟩ (Arv.start hfit Abh szh szh' (by decide) rfl ⟨Lh, trivial⟩) tables_1 p e ha hc hk s m _ below hf ((Spec.applies_iff_loose hf).mp happ).1 ⟨rfl, State.Warmed39.refl s, rfl⟩ trivial
  refine ⟨n, _, h1, h2, h3, hpost _ _ _ _ _ _ ⟨Cond.after_iff.mpr rfl, Cond.after_iff.mpr (eq_i res_at (Term.int_eval (1)) rfl), trivial⟩ ⟨hq.1, hq.2.1, (hq.2.2.sift fun y hy => Or.inr (N y hy)).mono (by decide) (by decide)⟩⟩
theorem main_1_1 : Claimed_1_1 := comes_1 fun _ _ _ _ _ _ h hF => ⟨h.1, hF⟩
theorem main_1_2 : Claimed_1_2 := comes_1 fun _ _ _ _ _ _ h hF => ⟨h.2.1, hF⟩
end Jvm.Pilot.@@N@@
namespace Jvm.Pilot.@@N@@
open Jvm Jvm.ClassFile Sem Op Lib Jvm.Free Jvm.Stand Jvm.Pilot.@@N@@.Jvm.D
/-! MADE BY PROGRAM (witnessworld.py) out of the Statement's table words and the real class files: 19 classes; the members and pool entries that the words name. The judged class is class 1, her method 1. -/
namespace start1
open Jvm.ClassFile
def u (s : String) : CpInfo := .utf8 (stringToUtf16 s)
/-- a pool by its gaps: so many unusable entries, then the entry; so many at the end -/
def gap : Nat → List CpInfo → List CpInfo
  | 0, r => r
  | n + 1, r => .unusable :: gap n r
def poolList (es : List (Nat × CpInfo)) (last : Nat) : List CpInfo := es.foldr (fun e r => gap e.1 (e.2 :: r)) (gap last [])
def pool (es : List (Nat × CpInfo)) (last : Nat) : Array CpInfo := ⟨poolList es last⟩
def fileOf (pool : Array CpInfo) (this : Nat) (attrs : Array Attribute := #[]) (ms : Array MethodInfo := #[]) (fl : Nat := 33) (sup : Nat := 0) (ifs : Array Nat := #[]) (fds : Array FieldInfo := #[]) : ClassFile where
  minorVersion := 0
  majorVersion := 65
  constantPool := pool
  accessFlags := fl
  thisClass := this
  superClass := sup
  interfaces := ifs
  fields := fds
  methods := ms
  attributes := attrs
def plain (name : String) (sup : Option ClassId) : Class where
  name := name
  kind := .ordinary
  loader := none
  accessFlags := 33
  super := sup
  interfaces := #[]
  cf := none
  fields := #[]
  methods := #[]
  instanceTypes := #[]
  staticTypes := #[]
  resolved := #[]
  callSites := []
  init := .initialized
  statics := none
  mirror := none

def pool0 : Array CpInfo := pool [(5, u "<init>"), (0, u "()V"), (1, .class_ 10), (1, u "java/lang/Object")] 113

def k0m0 : Method := { name := "<init>", desc := "()V", sig := { parameters := [], returnType := none }, accessFlags := 1, code := none }
/-- java/lang/Object -/
def k0 : Class := { plain "java/lang/Object" none with
  accessFlags := 33
  interfaces := #[]
  cf := some (fileOf pool0 8 #[] #[{ accessFlags := 1, nameIndex := 5, descriptorIndex := 6, attributes := #[] }] 33 0 #[] #[])
  fields := #[]
  methods := #[k0m0]
  instanceTypes := #[]
  staticTypes := #[]
  resolved := Array.replicate 124 none
  statics := none }

def pool1 : Array CpInfo := pool [(2, .class_ 4), (1, u "java/lang/Object"), (0, u "<init>"), (0, u "()V"), (0, .fieldref 8 9), (0, .class_ 10), (0, .nameAndType 11 12), (0, u "com/example/orthogon/orthogon/rules/LinagePlayer"), (0, u "VERTICAL"), (0, u "Lcom/example/orthogon/orthogon/rules/LinagePlayer;"), (0, .fieldref 8 14), (0, .nameAndType 15 12), (0, u "HORIZONTAL"), (0, .methodref 8 17), (0, .nameAndType 18 19), (0, u "opponent"), (0, u "()Lcom/example/orthogon/orthogon/rules/LinagePlayer;"), (0, .methodref 8 21), (0, .nameAndType 22 23), (0, u "property"), (0, u "()Ljava/lang/String;"), (0, .methodref 25 26), (0, .class_ 27), (0, .nameAndType 28 29), (0, u "java/lang/String"), (0, u "equals"), (0, u "(Ljava/lang/Object;)Z"), (0, .class_ 31), (0, u "com/example/orthogon/orthogon/rules/LinagePlayerOpponentPinLaw"), (2, u "law"), (0, u "(I)Z")] 3

def k1m0 : Method := { name := "<init>", desc := "()V", sig := { parameters := [], returnType := none }, accessFlags := 2, code := none }
def k1c1 : Code := { maxStack := 2, maxLocals := 3, code := code, exceptionTable := #[], attributes := #[] }
def k1m1 : Method := { name := "law", desc := "(I)Z", sig := { parameters := [.int], returnType := some .boolean }, accessFlags := 9, code := some k1c1 }
/-- com/example/orthogon/orthogon/rules/LinagePlayerOpponentPinLaw -/
def k1 : Class := { plain "com/example/orthogon/orthogon/rules/LinagePlayerOpponentPinLaw" (some 0) with
  accessFlags := 49
  interfaces := #[]
  cf := some (fileOf pool1 30 #[] #[{ accessFlags := 2, nameIndex := 5, descriptorIndex := 6, attributes := #[] }, { accessFlags := 9, nameIndex := 34, descriptorIndex := 35, attributes := #[] }] 49 2 #[] #[])
  fields := #[]
  methods := #[k1m0, k1m1]
  instanceTypes := #[]
  staticTypes := #[]
  resolved := Array.replicate 39 none
  statics := none }

def pool2 : Array CpInfo := pool [(1, .class_ 2), (0, u "java/lang/constant/Constable"), (0, .class_ 4), (0, u "java/lang/Object")] 6

/-- java/lang/constant/Constable -/
def k2 : Class := { plain "java/lang/constant/Constable" (some 0) with
  accessFlags := 1537
  interfaces := #[]
  cf := some (fileOf pool2 1 #[] #[] 1537 3 #[] #[])
  fields := #[]
  methods := #[]
  instanceTypes := #[]
  staticTypes := #[]
  resolved := Array.replicate 11 none
  statics := none }

def pool3 : Array CpInfo := pool [(1, .class_ 2), (0, u "java/lang/Comparable"), (0, .class_ 4), (0, u "java/lang/Object")] 7

/-- java/lang/Comparable -/
def k3 : Class := { plain "java/lang/Comparable" (some 0) with
  accessFlags := 1537
  interfaces := #[]
  cf := some (fileOf pool3 1 #[] #[] 1537 3 #[] #[])
  fields := #[]
  methods := #[]
  instanceTypes := #[]
  staticTypes := #[]
  resolved := Array.replicate 12 none
  statics := none }

def pool4 : Array CpInfo := pool [(1, .class_ 2), (0, u "java/io/Serializable"), (0, .class_ 4), (0, u "java/lang/Object")] 2

/-- java/io/Serializable -/
def k4 : Class := { plain "java/io/Serializable" (some 0) with
  accessFlags := 1537
  interfaces := #[]
  cf := some (fileOf pool4 1 #[] #[] 1537 3 #[] #[])
  fields := #[]
  methods := #[]
  instanceTypes := #[]
  staticTypes := #[]
  resolved := Array.replicate 7 none
  statics := none }

def pool5 : Array CpInfo := pool [(2, .class_ 4), (1, u "java/lang/Enum"), (0, u "name"), (0, u "Ljava/lang/String;"), (2, u "ordinal"), (0, u "I"), (1, .class_ 14), (1, u "java/lang/Object"), (4, u "hash"), (86, .class_ 108), (1, u "java/lang/Enum$EnumDesc"), (2, .class_ 112), (0, u "java/lang/constant/Constable"), (0, .class_ 114), (0, u "java/lang/Comparable"), (0, .class_ 116), (0, u "java/io/Serializable")] 87

/-- java/lang/Enum -/
def k5 : Class := { plain "java/lang/Enum" (some 0) with
  accessFlags := 1057
  interfaces := #[2, 3, 4]
  cf := some (fileOf pool5 2 #[.nestMembers #[106]] #[] 1057 12 #[111, 113, 115] #[{ accessFlags := 18, nameIndex := 5, descriptorIndex := 6, attributes := #[] }, { accessFlags := 18, nameIndex := 9, descriptorIndex := 10, attributes := #[] }, { accessFlags := 2, nameIndex := 19, descriptorIndex := 10, attributes := #[] }])
  fields := #[{ name := "name", type := (.object "java/lang/String"), accessFlags := 18, slot := 0, constantValue := 0 }, { name := "ordinal", type := .int, accessFlags := 18, slot := 1, constantValue := 0 }, { name := "hash", type := .int, accessFlags := 2, slot := 2, constantValue := 0 }]
  methods := #[]
  instanceTypes := #[(.object "java/lang/String"), .int, .int]
  staticTypes := #[]
  resolved := Array.replicate 204 none
  statics := none }

def pool6 : Array CpInfo := pool [(17, .class_ 18), (0, u "com/example/orthogon/orthogon/model/Side"), (20, .class_ 40), (0, u "java/lang/Object")] 9

/-- com/example/orthogon/orthogon/model/Side -/
def k6 : Class := { plain "com/example/orthogon/orthogon/model/Side" (some 0) with
  accessFlags := 1537
  interfaces := #[]
  cf := some (fileOf pool6 17 #[] #[] 1537 39 #[] #[])
  fields := #[]
  methods := #[]
  instanceTypes := #[]
  staticTypes := #[]
  resolved := Array.replicate 50 none
  statics := none }

def pool7 : Array CpInfo := pool [(1, .class_ 2), (0, u "com/example/orthogon/orthogon/rules/LinagePlayer"), (0, .fieldref 1 4), (0, .nameAndType 5 6), (0, u "VERTICAL"), (0, u "Lcom/example/orthogon/orthogon/rules/LinagePlayer;"), (0, .fieldref 1 8), (0, .nameAndType 9 6), (0, u "HORIZONTAL"), (2, u "$VALUES"), (0, u "[Lcom/example/orthogon/orthogon/rules/LinagePlayer;"), (6, .class_ 22), (1, u "java/lang/Enum"), (6, .fieldref 1 30), (0, .nameAndType 31 32), (0, u "property"), (0, u "Ljava/lang/String;"), (3, u "()Ljava/lang/String;"), (25, .class_ 63), (0, u "com/example/orthogon/orthogon/model/Side"), (7, u "opponent"), (0, u "()Lcom/example/orthogon/orthogon/rules/LinagePlayer;")] 7

def k7c0 : Code := { maxStack := 1, maxLocals := 1, code := prog_31_method_4_code, exceptionTable := #[], attributes := #[] }
def k7m0 : Method := { name := "property", desc := "()Ljava/lang/String;", sig := { parameters := [], returnType := some (.object "java/lang/String") }, accessFlags := 1, code := some k7c0 }
def k7c1 : Code := { maxStack := 2, maxLocals := 1, code := prog_31_method_5_code, exceptionTable := #[], attributes := #[] }
def k7m1 : Method := { name := "opponent", desc := "()Lcom/example/orthogon/orthogon/rules/LinagePlayer;", sig := { parameters := [], returnType := some (.object "com/example/orthogon/orthogon/rules/LinagePlayer") }, accessFlags := 1, code := some k7c1 }
/-- com/example/orthogon/orthogon/rules/LinagePlayer -/
def k7 : Class := { plain "com/example/orthogon/orthogon/rules/LinagePlayer" (some 5) with
  accessFlags := 16433
  interfaces := #[6]
  cf := some (fileOf pool7 1 #[] #[{ accessFlags := 1, nameIndex := 31, descriptorIndex := 36, attributes := #[] }, { accessFlags := 1, nameIndex := 71, descriptorIndex := 72, attributes := #[] }] 16433 20 #[62] #[{ accessFlags := 16409, nameIndex := 5, descriptorIndex := 6, attributes := #[] }, { accessFlags := 16409, nameIndex := 9, descriptorIndex := 6, attributes := #[] }, { accessFlags := 18, nameIndex := 31, descriptorIndex := 32, attributes := #[] }, { accessFlags := 4122, nameIndex := 12, descriptorIndex := 13, attributes := #[] }])
  fields := #[{ name := "VERTICAL", type := (.object "com/example/orthogon/orthogon/rules/LinagePlayer"), accessFlags := 16409, slot := 0, constantValue := 0 }, { name := "HORIZONTAL", type := (.object "com/example/orthogon/orthogon/rules/LinagePlayer"), accessFlags := 16409, slot := 1, constantValue := 0 }, { name := "property", type := (.object "java/lang/String"), accessFlags := 18, slot := 3, constantValue := 0 }, { name := "$VALUES", type := (.array (.object "com/example/orthogon/orthogon/rules/LinagePlayer")), accessFlags := 4122, slot := 2, constantValue := 0 }]
  methods := #[k7m0, k7m1]
  instanceTypes := #[(.object "java/lang/String"), .int, .int, (.object "java/lang/String")]
  staticTypes := #[(.object "com/example/orthogon/orthogon/rules/LinagePlayer"), (.object "com/example/orthogon/orthogon/rules/LinagePlayer"), (.array (.object "com/example/orthogon/orthogon/rules/LinagePlayer"))]
  resolved := Array.replicate 80 none
  statics := some 0 }

def pool8 : Array CpInfo := pool [(2, .class_ 4), (1, u "java/lang/CharSequence"), (42, .class_ 48), (0, u "java/lang/CharSequence$1CodePointIterator"), (10, .class_ 60), (0, u "java/lang/CharSequence$1CharIterator"), (5, .class_ 67), (0, u "java/lang/Object")] 63

/-- java/lang/CharSequence -/
def k8 : Class := { plain "java/lang/CharSequence" (some 0) with
  accessFlags := 1537
  interfaces := #[]
  cf := some (fileOf pool8 2 #[.nestMembers #[47, 59]] #[] 1537 66 #[] #[])
  fields := #[]
  methods := #[]
  instanceTypes := #[]
  staticTypes := #[]
  resolved := Array.replicate 131 none
  statics := none }

def pool9 : Array CpInfo := pool [(1, .class_ 2), (0, u "java/lang/constant/ConstantDesc"), (0, .class_ 4), (0, u "java/lang/Object")] 32

/-- java/lang/constant/ConstantDesc -/
def k9 : Class := { plain "java/lang/constant/ConstantDesc" (some 0) with
  accessFlags := 1537
  interfaces := #[]
  cf := some (fileOf pool9 1 #[] #[] 1537 3 #[] #[])
  fields := #[]
  methods := #[]
  instanceTypes := #[]
  staticTypes := #[]
  resolved := Array.replicate 37 none
  statics := none }

def pool10 : Array CpInfo := pool [(2, .class_ 4), (1, u "java/lang/Object"), (0, u "<init>"), (0, u "()V"), (2, .fieldref 10 11), (0, .class_ 12), (0, .nameAndType 13 14), (0, u "java/lang/String"), (0, u "value"), (0, u "[B"), (0, .fieldref 10 16), (0, .nameAndType 17 18), (0, u "coder"), (0, u "B"), (2, u "hash"), (0, u "I"), (2, u "hashIsZero"), (0, u "Z"), (11, .fieldref 10 39), (0, .nameAndType 40 26), (0, u "COMPACT_STRINGS"), (66, .class_ 109), (1, u "java/lang/StringLatin1"), (431, .methodref 107 542), (0, .nameAndType 543 544), (0, u "equals"), (0, u "([B[B)Z"), (28, u "(Ljava/lang/Object;)Z"), (1, .class_ 576), (0, u "java/lang/CharSequence"), (22, u "CASE_INSENSITIVE_ORDER"), (0, u "Ljava/util/Comparator;"), (500, u "serialPersistentFields"), (0, u "[Ljava/io/ObjectStreamField;"), (0, .class_ 1104), (0, u "java/lang/String$CaseInsensitiveComparator"), (1, .class_ 1107), (0, u "java/io/Serializable"), (0, .class_ 1109), (0, u "java/lang/Comparable"), (0, .class_ 1111), (0, u "java/lang/constant/Constable"), (0, .class_ 1113), (0, u "java/lang/constant/ConstantDesc"), (2, u "serialVersionUID"), (0, u "J"), (3, u "REPL"), (0, u "C"), (2, u "LATIN1"), (1, u "UTF16")] 323

def k10m0 : Method := { name := "<init>", desc := "()V", sig := { parameters := [], returnType := none }, accessFlags := 1, code := none }
def k10c1 : Code := { maxStack := 2, maxLocals := 3, code := jdk_42_method_66_code, exceptionTable := #[], attributes := #[] }
def k10m1 : Method := { name := "equals", desc := "(Ljava/lang/Object;)Z", sig := { parameters := [(.object "java/lang/Object")], returnType := some .boolean }, accessFlags := 1, code := some k10c1 }
/-- java/lang/String -/
def k10 : Class := { plain "java/lang/String" (some 0) with
  accessFlags := 49
  interfaces := #[4, 3, 8, 2, 9]
  cf := some (fileOf pool10 10 #[.nestMembers #[1103]] #[{ accessFlags := 1, nameIndex := 5, descriptorIndex := 6, attributes := #[] }, { accessFlags := 1, nameIndex := 543, descriptorIndex := 573, attributes := #[] }] 49 2 #[1106, 1108, 575, 1110, 1112] #[{ accessFlags := 18, nameIndex := 13, descriptorIndex := 14, attributes := #[] }, { accessFlags := 18, nameIndex := 17, descriptorIndex := 18, attributes := #[] }, { accessFlags := 2, nameIndex := 21, descriptorIndex := 22, attributes := #[] }, { accessFlags := 2, nameIndex := 25, descriptorIndex := 26, attributes := #[] }, { accessFlags := 26, nameIndex := 1116, descriptorIndex := 1117, attributes := #[] }, { accessFlags := 24, nameIndex := 40, descriptorIndex := 26, attributes := #[] }, { accessFlags := 26, nameIndex := 1101, descriptorIndex := 1102, attributes := #[] }, { accessFlags := 26, nameIndex := 1121, descriptorIndex := 1122, attributes := #[] }, { accessFlags := 25, nameIndex := 599, descriptorIndex := 600, attributes := #[] }, { accessFlags := 24, nameIndex := 1125, descriptorIndex := 18, attributes := #[] }, { accessFlags := 24, nameIndex := 1127, descriptorIndex := 18, attributes := #[] }])
  fields := #[{ name := "value", type := (.array .byte), accessFlags := 18, slot := 0, constantValue := 0 }, { name := "coder", type := .byte, accessFlags := 18, slot := 1, constantValue := 0 }, { name := "hash", type := .int, accessFlags := 2, slot := 2, constantValue := 0 }, { name := "hashIsZero", type := .boolean, accessFlags := 2, slot := 3, constantValue := 0 }, { name := "serialVersionUID", type := .long, accessFlags := 26, slot := 0, constantValue := 0 }, { name := "COMPACT_STRINGS", type := .boolean, accessFlags := 24, slot := 1, constantValue := 0 }, { name := "serialPersistentFields", type := (.array (.object "java/io/ObjectStreamField")), accessFlags := 26, slot := 2, constantValue := 0 }, { name := "REPL", type := .char, accessFlags := 26, slot := 3, constantValue := 0 }, { name := "CASE_INSENSITIVE_ORDER", type := (.object "java/util/Comparator"), accessFlags := 25, slot := 4, constantValue := 0 }, { name := "LATIN1", type := .byte, accessFlags := 24, slot := 5, constantValue := 0 }, { name := "UTF16", type := .byte, accessFlags := 24, slot := 6, constantValue := 0 }]
  methods := #[k10m0, k10m1]
  instanceTypes := #[(.array .byte), .byte, .int, .boolean]
  staticTypes := #[.long, .boolean, (.array (.object "java/io/ObjectStreamField")), .char, (.object "java/util/Comparator"), .byte, .byte]
  resolved := Array.replicate 1451 none
  statics := some 1 }

def pool11 : Array CpInfo := pool [(4, .class_ 6), (1, u "java/lang/Object"), (0, u "<init>"), (0, u "()V"), (5, .class_ 16), (1, u "java/lang/StringLatin1"), (104, u "$assertionsDisabled"), (0, u "Z"), (98, .class_ 223), (1, u "java/lang/StringLatin1$LinesSpliterator"), (57, u "equals"), (0, u "([B[B)Z"), (107, .class_ 391), (0, u "java/lang/StringLatin1$CharsSpliterator")] 3

def k11m0 : Method := { name := "<init>", desc := "()V", sig := { parameters := [], returnType := none }, accessFlags := 0, code := none }
def k11c1 : Code := { maxStack := 3, maxLocals := 3, code := jdk_43_method_13_code, exceptionTable := #[], attributes := #[] }
def k11m1 : Method := { name := "equals", desc := "([B[B)Z", sig := { parameters := [(.array .byte), (.array .byte)], returnType := some .boolean }, accessFlags := 9, code := some k11c1 }
/-- java/lang/StringLatin1 -/
def k11 : Class := { plain "java/lang/StringLatin1" (some 0) with
  accessFlags := 48
  interfaces := #[]
  cf := some (fileOf pool11 14 #[.nestMembers #[390, 221]] #[{ accessFlags := 0, nameIndex := 7, descriptorIndex := 8, attributes := #[] }, { accessFlags := 9, nameIndex := 281, descriptorIndex := 282, attributes := #[] }] 48 4 #[] #[{ accessFlags := 4120, nameIndex := 121, descriptorIndex := 122, attributes := #[] }])
  fields := #[{ name := "$assertionsDisabled", type := .boolean, accessFlags := 4120, slot := 0, constantValue := 0 }]
  methods := #[k11m0, k11m1]
  instanceTypes := #[]
  staticTypes := #[.boolean]
  resolved := Array.replicate 395 none
  statics := none }

def pool12 : Array CpInfo := pool [(2, .class_ 4), (1, u "java/lang/Object"), (0, u "<init>"), (0, u "()V"), (17, .class_ 26), (1, u "jdk/internal/util/Preconditions"), (28, .class_ 56), (0, u "jdk/internal/util/Preconditions$4"), (57, .class_ 115), (0, u "jdk/internal/util/Preconditions$1"), (7, u "SIOOBE_FORMATTER"), (0, u "Ljava/util/function/BiFunction;"), (0, .class_ 126), (0, u "jdk/internal/util/Preconditions$2"), (3, u "AIOOBE_FORMATTER"), (0, .class_ 132), (0, u "jdk/internal/util/Preconditions$3"), (3, u "IOOBE_FORMATTER")] 57

def k12m0 : Method := { name := "<init>", desc := "()V", sig := { parameters := [], returnType := none }, accessFlags := 1, code := none }
/-- jdk/internal/util/Preconditions -/
def k12 : Class := { plain "jdk/internal/util/Preconditions" (some 0) with
  accessFlags := 33
  interfaces := #[]
  cf := some (fileOf pool12 24 #[.nestMembers #[55, 131, 125, 114]] #[{ accessFlags := 1, nameIndex := 5, descriptorIndex := 6, attributes := #[] }] 33 2 #[] #[{ accessFlags := 25, nameIndex := 123, descriptorIndex := 124, attributes := #[] }, { accessFlags := 25, nameIndex := 130, descriptorIndex := 124, attributes := #[] }, { accessFlags := 25, nameIndex := 136, descriptorIndex := 124, attributes := #[] }])
  fields := #[{ name := "SIOOBE_FORMATTER", type := (.object "java/util/function/BiFunction"), accessFlags := 25, slot := 0, constantValue := 0 }, { name := "AIOOBE_FORMATTER", type := (.object "java/util/function/BiFunction"), accessFlags := 25, slot := 1, constantValue := 0 }, { name := "IOOBE_FORMATTER", type := (.object "java/util/function/BiFunction"), accessFlags := 25, slot := 2, constantValue := 0 }]
  methods := #[k12m0]
  instanceTypes := #[]
  staticTypes := #[(.object "java/util/function/BiFunction"), (.object "java/util/function/BiFunction"), (.object "java/util/function/BiFunction")]
  resolved := Array.replicate 194 none
  statics := some 2 }

def pool13 : Array CpInfo := pool [(9, u "<init>"), (6, .class_ 18), (1, u "java/lang/Object"), (0, u "()V"), (1, .class_ 23), (1, u "jdk/internal/util/ArraysSupport"), (0, u "LOG2_ARRAY_LONG_INDEX_SCALE"), (0, u "I"), (2, u "U"), (0, u "Ljdk/internal/misc/Unsafe;"), (8, u "BIG_ENDIAN"), (0, u "Z"), (8, u "LOG2_BYTE_BIT_SIZE"), (4, u "LOG2_ARRAY_INT_INDEX_SCALE"), (54, u "JLA"), (0, u "Ljdk/internal/access/JavaLangAccess;"), (11, u "LOG2_ARRAY_BOOLEAN_INDEX_SCALE"), (9, u "LOG2_ARRAY_BYTE_INDEX_SCALE"), (5, u "LOG2_ARRAY_CHAR_INDEX_SCALE"), (5, u "LOG2_ARRAY_SHORT_INDEX_SCALE"), (18, u "LOG2_ARRAY_FLOAT_INDEX_SCALE"), (24, u "LOG2_ARRAY_DOUBLE_INDEX_SCALE"), (89, u "T_BOOLEAN"), (2, u "T_CHAR"), (1, u "T_FLOAT"), (1, u "T_DOUBLE"), (1, u "T_BYTE"), (1, u "T_SHORT"), (1, u "T_INT"), (1, u "T_LONG"), (1, u "SOFT_MAX_ARRAY_LENGTH")] 83

def k13m0 : Method := { name := "<init>", desc := "()V", sig := { parameters := [], returnType := none }, accessFlags := 2, code := none }
/-- jdk/internal/util/ArraysSupport -/
def k13 : Class := { plain "jdk/internal/util/ArraysSupport" (some 0) with
  accessFlags := 33
  interfaces := #[]
  cf := some (fileOf pool13 21 #[] #[{ accessFlags := 2, nameIndex := 9, descriptorIndex := 19, attributes := #[] }] 33 16 #[] #[{ accessFlags := 24, nameIndex := 28, descriptorIndex := 29, attributes := #[] }, { accessFlags := 26, nameIndex := 38, descriptorIndex := 39, attributes := #[] }, { accessFlags := 25, nameIndex := 121, descriptorIndex := 25, attributes := #[] }, { accessFlags := 25, nameIndex := 131, descriptorIndex := 25, attributes := #[] }, { accessFlags := 25, nameIndex := 137, descriptorIndex := 25, attributes := #[] }, { accessFlags := 25, nameIndex := 143, descriptorIndex := 25, attributes := #[] }, { accessFlags := 25, nameIndex := 53, descriptorIndex := 25, attributes := #[] }, { accessFlags := 25, nameIndex := 24, descriptorIndex := 25, attributes := #[] }, { accessFlags := 25, nameIndex := 162, descriptorIndex := 25, attributes := #[] }, { accessFlags := 25, nameIndex := 187, descriptorIndex := 25, attributes := #[] }, { accessFlags := 26, nameIndex := 48, descriptorIndex := 25, attributes := #[] }, { accessFlags := 25, nameIndex := 277, descriptorIndex := 25, attributes := #[] }, { accessFlags := 25, nameIndex := 280, descriptorIndex := 25, attributes := #[] }, { accessFlags := 25, nameIndex := 282, descriptorIndex := 25, attributes := #[] }, { accessFlags := 25, nameIndex := 284, descriptorIndex := 25, attributes := #[] }, { accessFlags := 25, nameIndex := 286, descriptorIndex := 25, attributes := #[] }, { accessFlags := 25, nameIndex := 288, descriptorIndex := 25, attributes := #[] }, { accessFlags := 25, nameIndex := 290, descriptorIndex := 25, attributes := #[] }, { accessFlags := 25, nameIndex := 292, descriptorIndex := 25, attributes := #[] }, { accessFlags := 26, nameIndex := 108, descriptorIndex := 109, attributes := #[] }, { accessFlags := 25, nameIndex := 294, descriptorIndex := 25, attributes := #[] }])
  fields := #[{ name := "U", type := (.object "jdk/internal/misc/Unsafe"), accessFlags := 24, slot := 0, constantValue := 0 }, { name := "BIG_ENDIAN", type := .boolean, accessFlags := 26, slot := 1, constantValue := 0 }, { name := "LOG2_ARRAY_BOOLEAN_INDEX_SCALE", type := .int, accessFlags := 25, slot := 2, constantValue := 0 }, { name := "LOG2_ARRAY_BYTE_INDEX_SCALE", type := .int, accessFlags := 25, slot := 3, constantValue := 0 }, { name := "LOG2_ARRAY_CHAR_INDEX_SCALE", type := .int, accessFlags := 25, slot := 4, constantValue := 0 }, { name := "LOG2_ARRAY_SHORT_INDEX_SCALE", type := .int, accessFlags := 25, slot := 5, constantValue := 0 }, { name := "LOG2_ARRAY_INT_INDEX_SCALE", type := .int, accessFlags := 25, slot := 6, constantValue := 0 }, { name := "LOG2_ARRAY_LONG_INDEX_SCALE", type := .int, accessFlags := 25, slot := 7, constantValue := 0 }, { name := "LOG2_ARRAY_FLOAT_INDEX_SCALE", type := .int, accessFlags := 25, slot := 8, constantValue := 0 }, { name := "LOG2_ARRAY_DOUBLE_INDEX_SCALE", type := .int, accessFlags := 25, slot := 9, constantValue := 0 }, { name := "LOG2_BYTE_BIT_SIZE", type := .int, accessFlags := 26, slot := 10, constantValue := 0 }, { name := "T_BOOLEAN", type := .int, accessFlags := 25, slot := 11, constantValue := 0 }, { name := "T_CHAR", type := .int, accessFlags := 25, slot := 12, constantValue := 0 }, { name := "T_FLOAT", type := .int, accessFlags := 25, slot := 13, constantValue := 0 }, { name := "T_DOUBLE", type := .int, accessFlags := 25, slot := 14, constantValue := 0 }, { name := "T_BYTE", type := .int, accessFlags := 25, slot := 15, constantValue := 0 }, { name := "T_SHORT", type := .int, accessFlags := 25, slot := 16, constantValue := 0 }, { name := "T_INT", type := .int, accessFlags := 25, slot := 17, constantValue := 0 }, { name := "T_LONG", type := .int, accessFlags := 25, slot := 18, constantValue := 0 }, { name := "JLA", type := (.object "jdk/internal/access/JavaLangAccess"), accessFlags := 26, slot := 19, constantValue := 0 }, { name := "SOFT_MAX_ARRAY_LENGTH", type := .int, accessFlags := 25, slot := 20, constantValue := 0 }]
  methods := #[k13m0]
  instanceTypes := #[]
  staticTypes := #[(.object "jdk/internal/misc/Unsafe"), .boolean, .int, .int, .int, .int, .int, .int, .int, .int, .int, .int, .int, .int, .int, .int, .int, .int, .int, (.object "jdk/internal/access/JavaLangAccess"), .int]
  resolved := Array.replicate 378 none
  statics := none }

def pool14 : Array CpInfo := pool [(1, u "java/lang/Cloneable"), (0, .class_ 1), (0, u "java/lang/Object"), (0, .class_ 3)] 3

/-- java/lang/Cloneable -/
def k14 : Class := { plain "java/lang/Cloneable" (some 0) with
  accessFlags := 1537
  interfaces := #[]
  cf := some (fileOf pool14 2 #[] #[] 1537 4 #[] #[])
  fields := #[]
  methods := #[]
  instanceTypes := #[]
  staticTypes := #[]
  resolved := Array.replicate 8 none
  statics := none }

/-- the primitive byte -/
def k15 : Class := { plain "byte" none with kind := .primitive 'B', accessFlags := 0x411 }
/-- [B -/
def k16 : Class := { plain "[B" (some 0) with kind := .array 15 .byte, interfaces := #[14, 4], accessFlags := 1041 }

/-- the primitive int -/
def k17 : Class := { plain "int" none with kind := .primitive 'I', accessFlags := 0x411 }
/-- [I -/
def k18 : Class := { plain "[I" (some 0) with kind := .array 17 .int, interfaces := #[14, 4], accessFlags := 1041 }

def heap : Heap := #[{ cls := 7, slots := #[.ref 3, .ref 4, .null], vm := .statics 7 },
  { cls := 10, slots := #[.long 0, .int 1, .null, .int 0, .null, .int 0, .int 0], vm := .statics 10 },
  { cls := 12, slots := #[.null, .null, .null], vm := .statics 12 },
  { cls := 7, slots := #[.null, .int 0, .int 0, .ref 5], vm := .none },
  { cls := 7, slots := #[.null, .int 1, .int 0, .ref 6], vm := .none },
  { cls := 10, slots := #[.ref 7, .int 0, .int 0, .int 0], vm := .none },
  { cls := 10, slots := #[.ref 8, .int 0, .int 0, .int 0], vm := .none },
  { cls := 16, slots := #[.int 66], vm := .none },
  { cls := 16, slots := #[.int 87], vm := .none }]
def classes : Array Class := #[k0, k1, k2, k3, k4, k5, k6, k7, k8, k9, k10, k11, k12, k13, k14, k15, k16, k17, k18]
def interned : List (Array UInt16 × Addr) := []
def slotsUsed : Nat := 31
def theMethod : MethodId := ⟨1, 1⟩
def args0 : Array Value := #[.int 5]
def aboutOver (below : List Frame) : State where
  vm := { classes := classes, interned := interned.toArray }
  heap := heap
  slotsUsed := slotsUsed
  threads := #[{ frames := .invoking theMethod args0 :: below }]
def below0 : List Frame := [.native { method := ⟨0, 0⟩, args := #[] }]
def about1 : State := aboutOver below0
def p0 : Program := .bare "" "" ""
def e0 : Env := launch0.env 0 0 0
theorem w_frames : about1.frames = Frame.invoking theMethod args0 :: below0 := rfl
set_option maxRecDepth 65536 in
theorem w_args : argsFit about1.vm theMethod args0 = true := by decide +kernel
set_option maxRecDepth 65536 in
theorem w_heap : heapFits about1 = true := by decide +kernel
set_option maxRecDepth 65536 in
theorem w_runnable : about1.curStatus? = some .runnable := by decide +kernel
set_option maxRecDepth 65536 in
theorem w_alone : about1.alone = true := by decide +kernel
set_option maxRecDepth 65536 in
theorem w_named : about1.methodNamed? x = some theMethod := by decide +kernel
set_option maxRecDepth 65536 in
theorem w_hears : about1.hears theMethod below0 = true := by decide +kernel
set_option maxRecDepth 65536 in
theorem w_ripe : about1.ripe theMethod args0 below0 = true := by decide +kernel
theorem w_running : about1.status = .running := rfl
set_option maxRecDepth 65536 in
theorem w_room : about1.hasRoom e0.platform room_1 = true :=
  launch0.hasRoom_least _ room_1 (by decide +kernel) (by decide +kernel) (by decide +kernel) (by decide +kernel) (by decide +kernel) (by decide +kernel)
theorem allAtoms_all (ts : List Jvm.Cond) (a : Array Jvm.Value) (st : Jvm.State) : (allAtoms ts).before a st = ts.all (fun c => c.before a st) := by
  induction ts with
  | nil => rfl
  | cons c t ih =>
    show (Jvm.Cond.and c (allAtoms t)).before a st = _
    rw [Jvm.Cond.before_and, ih, List.all_cons]
def words1 : List Jvm.Cond := Jvm.Cond.code x code maxLocals ret :: tables_1
/-- a 'code' word, met by the world's own term for the bytes: nothing is compared byte by byte -/
theorem code_word {y : MethodName} {bytes : ByteArray} {mx : Nat} {rt : Option FieldType} {a : Array Value} {s : State} {m : MethodId} {meth : Method} {c : Code} (h1 : s.methodNamed? y = some m) (h2 : s.vm.method? m = some meth) (h3 : meth.code = some c) (h4 : c.code = bytes)
    (h5 : (c.maxLocals == mx && c.exceptionTable.isEmpty && decide (c.maxStack ≤ mostOperands) && decide (meth.sig.returnType = rt) && !meth.locks && decide (parseMethodDescriptor y.desc = some meth.sig)) = true) : (Jvm.Cond.code y bytes mx rt).before a s = true := by
  simp only [Bool.and_eq_true, beq_iff_eq, Bool.not_eq_true', decide_eq_true_eq] at h5
  obtain ⟨⟨⟨⟨⟨g1, g2⟩, g3⟩, g4⟩, g5⟩, g6⟩ := h5
  simp [Cond.before, Cond.holds, Cond.value, h1, h2, h3, h4, g1, g2, g3, g4, g5, g6]
def isCode : Jvm.Cond → Bool
  | .code _ _ _ _ => true
  | _ => false
theorem all_split {L : List Jvm.Cond} {P : Jvm.Cond → Bool} (h1 : L.all (fun c => isCode c || P c) = true) (h2 : ∀ c ∈ L.filter isCode, P c = true) : L.all P = true := by
  refine List.all_eq_true.mpr fun c hc => ?_
  have h := List.all_eq_true.mp h1 c hc
  rcases Bool.eq_false_or_eq_true (isCode c) with hi | hi
  · exact h2 c (List.mem_filter.mpr ⟨hc, hi⟩)
  · simpa [hi] using h
set_option maxRecDepth 65536 in
theorem w_c0 : (Jvm.Cond.code x code maxLocals ret).before args0 about1 = true := code_word (m := ⟨1, 1⟩) (meth := k1m1) (c := k1c1) (by decide +kernel) rfl rfl rfl (by decide +kernel)
set_option maxRecDepth 65536 in
theorem w_c1 : (Jvm.Cond.code ({ cls := "com/example/orthogon/orthogon/rules/LinagePlayer", name := "opponent", desc := "()Lcom/example/orthogon/orthogon/rules/LinagePlayer;" } : Jvm.MethodName) prog_31_method_5_code (1 : Nat) (Option.some (Jvm.ClassFile.FieldType.object "com/example/orthogon/orthogon/rules/LinagePlayer"))).before args0 about1 = true := code_word (m := ⟨7, 1⟩) (meth := k7m1) (c := k7c1) (by decide +kernel) rfl rfl rfl (by decide +kernel)
set_option maxRecDepth 65536 in
theorem w_c2 : (Jvm.Cond.code ({ cls := "com/example/orthogon/orthogon/rules/LinagePlayer", name := "property", desc := "()Ljava/lang/String;" } : Jvm.MethodName) prog_31_method_4_code (1 : Nat) (Option.some (Jvm.ClassFile.FieldType.object "java/lang/String"))).before args0 about1 = true := code_word (m := ⟨7, 0⟩) (meth := k7m0) (c := k7c0) (by decide +kernel) rfl rfl rfl (by decide +kernel)
set_option maxRecDepth 65536 in
theorem w_c3 : (Jvm.Cond.code ({ cls := "java/lang/String", name := "equals", desc := "(Ljava/lang/Object;)Z" } : Jvm.MethodName) jdk_42_method_66_code (3 : Nat) (Option.some Jvm.ClassFile.FieldType.boolean)).before args0 about1 = true := code_word (m := ⟨10, 1⟩) (meth := k10m1) (c := k10c1) (by decide +kernel) rfl rfl rfl (by decide +kernel)
set_option maxRecDepth 65536 in
theorem w_c4 : (Jvm.Cond.code ({ cls := "java/lang/StringLatin1", name := "equals", desc := "([B[B)Z" } : Jvm.MethodName) jdk_43_method_13_code (3 : Nat) (Option.some Jvm.ClassFile.FieldType.boolean)).before args0 about1 = true := code_word (m := ⟨11, 1⟩) (meth := k11m1) (c := k11c1) (by decide +kernel) rfl rfl rfl (by decide +kernel)
def codes1 : List Jvm.Cond := [Jvm.Cond.code x code maxLocals ret, Jvm.Cond.code ({ cls := "com/example/orthogon/orthogon/rules/LinagePlayer", name := "opponent", desc := "()Lcom/example/orthogon/orthogon/rules/LinagePlayer;" } : Jvm.MethodName) prog_31_method_5_code (1 : Nat) (Option.some (Jvm.ClassFile.FieldType.object "com/example/orthogon/orthogon/rules/LinagePlayer")), Jvm.Cond.code ({ cls := "com/example/orthogon/orthogon/rules/LinagePlayer", name := "property", desc := "()Ljava/lang/String;" } : Jvm.MethodName) prog_31_method_4_code (1 : Nat) (Option.some (Jvm.ClassFile.FieldType.object "java/lang/String")), Jvm.Cond.code ({ cls := "java/lang/String", name := "equals", desc := "(Ljava/lang/Object;)Z" } : Jvm.MethodName) jdk_42_method_66_code (3 : Nat) (Option.some Jvm.ClassFile.FieldType.boolean), Jvm.Cond.code ({ cls := "java/lang/StringLatin1", name := "equals", desc := "([B[B)Z" } : Jvm.MethodName) jdk_43_method_13_code (3 : Nat) (Option.some Jvm.ClassFile.FieldType.boolean)]
set_option maxRecDepth 65536 in
theorem codes_eq : words1.filter isCode = codes1 := rfl
theorem w_codes : ∀ c ∈ words1.filter isCode, c.before args0 about1 = true := by
  rw [codes_eq]
  intro c hc
  simp only [codes1, List.mem_cons, List.not_mem_nil, or_false] at hc
  rcases hc with rfl | rfl | rfl | rfl | rfl
  · exact w_c0
  · exact w_c1
  · exact w_c2
  · exact w_c3
  · exact w_c4
set_option maxRecDepth 65536 in
theorem w_t1 : (words1.take 24).all (fun c => isCode c || c.before args0 about1) = true := by decide +kernel
set_option maxRecDepth 65536 in
theorem w_t2 : (words1.drop 24).all (fun c => isCode c || c.before args0 about1) = true := by decide +kernel
theorem w_tables : (allAtoms (Jvm.Cond.code x code maxLocals ret :: tables_1)).before args0 about1 = true := by
  rw [allAtoms_all]
  show words1.all (fun c => c.before args0 about1) = true
  refine all_split ?_ w_codes
  rw [← List.take_append_drop 24 words1, List.all_append, w_t1, w_t2]
  rfl
set_option maxRecDepth 65536 in
theorem w_rest : rest_1_c.before args0 about1 = true := by decide +kernel
set_option maxRecDepth 65536 in
theorem w_case : (Jvm.Cond.and given_1 narrow_1).before args0 about1 = true := by decide +kernel
theorem w_applies : (headSpec (Jvm.Cond.code x code maxLocals ret :: tables_1) room_1).applies x e0.platform about1 = true :=
  (Spec.applies_iff w_frames).mpr ⟨w_running, w_runnable, w_alone, w_named, w_hears, w_ripe, w_room, w_tables⟩
theorem atStart : AtStart classFile x code maxLocals ret World_1 tables_1 room_1 Calls_1 rest_1 Pre_1 launch0 p0 e0 about1 theMethod args0 below0 :=
  ⟨lists_1, trivial, launch0.admits_env _ _ _, launch0.least_env, fairChoices_fair.cas, fairChoices_fair.clock, w_frames, w_args, w_heap, w_applies, trivial, w_rest, w_case⟩
end start1
theorem witness_1 : WitnessClaimed_1 := ⟨start1.p0, start1.e0, start1.about1, start1.theMethod, start1.args0, start1.below0, start1.atStart⟩
end Jvm.Pilot.@@N@@
