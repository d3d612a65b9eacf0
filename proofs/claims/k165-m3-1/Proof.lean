import JvmDerived
import JvmDerived.Pilot.@@N@@Statement
import JvmDerived.Pilot.@@N@@Code
set_option linter.unusedVariables false
set_option linter.unusedSimpArgs false
namespace Jvm.Own
open Sem ClassFile Op Lib Jvm.Stand Jvm.Free Jvm.LawKit Jvm.RoadKit
/-! ### what is left to walk, and one law a step -/
def Go (p : Program) (e : Env) (below : List Frame) (P : Outcome → State → Prop) (S : State) : Prop :=
  ∃ s₂ o, Steps p.tables e below S s₂ ∧ s₂.status = .running ∧ Ended s₂ below o ∧ P o s₂
def Fini (s : State) (Q : Option Value → Heap → List Loc → Prop) (k n : Nat) (o : Outcome) (U : State) : Prop :=
  ∃ v L, o = .returned v ∧ Q v U.heap L ∧ FrameEnd s o U L k n
def Ct (l : Launch) (y : MethodName) (bytes : ByteArray) (maxL : Nat) (ret : Option FieldType) (ws : List Jvm.Cond) (rm : Room) (Z : State) (as : Array Value) (h : Heap) (Q : Option Value → Heap → List Loc → Prop) : Prop :=
  MetFree l y (head1 (Jvm.Cond.code y bytes maxL ret :: ws) rm) (fun a U => a = as ∧ Z.Warmed39 U.vm ∧ U.heap = h) (fun _ _ _ _ _ => True) (fun _ U o U' => ∃ v L, o = .returned v ∧ Q v U'.heap L ∧ FrameEnd U o U' L rm.cells rm.slots)
section Walk
variable {p : Program} {l : Launch} {e : Env} {R : Room} {s : State} {m : MethodId} {args : Array Value} {below : List Frame} {meth : Method} {c : Code} {T : State} {locs : List Loc} {cells slots : Nat} {P : Outcome → State → Prop} {Z : State} {a0 : Array Value} {h : Heap}
variable {pc : Nat} {L : Array Slot} {rest st : List Value}
theorem Go.via {A B : State} (q : ∀ t, Steps p.tables e below B t → Steps p.tables e below A t) (k : Go p e below P B) : Go p e below P A := by
  obtain ⟨s2, o, h1, h2⟩ := k
  exact ⟨s2, o, q _ h1, h2⟩
theorem Go.tr {A B : State} (q : Steps p.tables e below A B) (k : Go p e below P B) : Go p e below P A := Go.via (fun _ r => q.trans r) k
theorem enter {y : MethodName} {bytes : ByteArray} {maxL : Nat} {ret : Option FieldType} {ws : List Jvm.Cond} {rm : Room} {as : Array Value} {Q : Option Value → Heap → List Loc → Prop} (hy : plainFor y = true)
    (body : ∀ p e s m below meth c s₁, p.tables.exec = Jvm.exec → c.code = bytes → c.maxLocals = maxL → s.vm.findClass y.cls = some m.cls → meth.name = y.name → meth.sig.returnType = ret → meth.locks = false → Z.Warmed39 s.vm →
      Stand p l e rm s m as below meth c s₁ [] 0 0 → s₁.heap = h → Go p e below (Fini s Q rm.cells rm.slots) (s₁.setTop (entryFrame m as maxL))) : Ct l y bytes maxL ret ws rm Z as h Q := by
  refine MetFree.of_bodySF hy hisR ?_
  intro p e s m args below meth c s₁ Bd hml hP hK
  obtain ⟨rfl, hZ, hh⟩ := hP
  exact body p e s m below meth c s₁ Bd.exec Bd.bytes hml (findClass_of_methodNamed Bd.named) (name_of_methodNamed Bd.named Bd.method).1 Bd.returns Bd.notSynchronized hZ (Stand.of_body Bd) (by rw [← hh, Bd.state]; rfl)
theorem start {g g' : JFrame} (q : g = g') (k : Go p e below P (T.setTop g')) : Go p e below P (T.setTop g) := q ▸ k
theorem induct {α : Type} (S : α → State) (I : Nat → α → Prop) (base : ∀ a, I 0 a → Go p e below P (S a)) (step : ∀ k a, I (k + 1) a → (∀ a', I k a' → Go p e below P (S a')) → Go p e below P (S a)) {n : Nat} {a : α} (w : I n a) : Go p e below P (S a) := by
  induction n generalizing a with
  | zero => exact base a w
  | succ k ih => exact step k a w (fun a' w' => ih w')
/-! plain steps -/
theorem aloadN (X : Stand p l e R s m args below meth c T locs cells slots) (hx : p.tables.exec = Jvm.exec) {i : Fin 4} {v : Value} (hd : decode c.code pc = .ok (.aload_n i, 1)) (hl : L[i.val]? = some (.val v)) (hv : v.isRef = true) (k : Go p e below P (T.setTop (mkF m (pc + 1) L (v :: st)))) : Go p e below P (T.setTop (mkF m pc L st)) := Go.via (fun _ q => XS.aloadN X.here hx rfl hd hl hv q) k
theorem aload (X : Stand p l e R s m args below meth c T locs cells slots) (hx : p.tables.exec = Jvm.exec) {i : Nat} {v : Value} (hd : decode c.code pc = .ok (.aload i, 2)) (hl : L[i]? = some (.val v)) (hv : v.isRef = true) (k : Go p e below P (T.setTop (mkF m (pc + 2) L (v :: st)))) : Go p e below P (T.setTop (mkF m pc L st)) := Go.via (fun _ q => XS.aload X.here hx rfl hd hl hv q) k
theorem iloadN (X : Stand p l e R s m args below meth c T locs cells slots) (hx : p.tables.exec = Jvm.exec) {i : Fin 4} {v : Int32} (hd : decode c.code pc = .ok (.iload_n i, 1)) (hl : L[i.val]? = some (.val (.int v))) (k : Go p e below P (T.setTop (mkF m (pc + 1) L (.int v :: st)))) : Go p e below P (T.setTop (mkF m pc L st)) := Go.via (fun _ q => XS.iloadN X.here hx rfl hd hl q) k
theorem iload (X : Stand p l e R s m args below meth c T locs cells slots) (hx : p.tables.exec = Jvm.exec) {i : Nat} {v : Int32} (hd : decode c.code pc = .ok (.iload i, 2)) (hl : L[i]? = some (.val (.int v))) (k : Go p e below P (T.setTop (mkF m (pc + 2) L (.int v :: st)))) : Go p e below P (T.setTop (mkF m pc L st)) := Go.via (fun _ q => XS.iload X.here hx rfl hd hl q) k
theorem lloadN (X : Stand p l e R s m args below meth c T locs cells slots) (hx : p.tables.exec = Jvm.exec) {i : Fin 4} {v : Int64} (hd : decode c.code pc = .ok (.lload_n i, 1)) (hl : L[i.val]? = some (.val (.long v))) (k : Go p e below P (T.setTop (mkF m (pc + 1) L (.long v :: st)))) : Go p e below P (T.setTop (mkF m pc L st)) := Go.via (fun _ q => XT.lloadN X.here hx rfl hd hl q) k
theorem lload (X : Stand p l e R s m args below meth c T locs cells slots) (hx : p.tables.exec = Jvm.exec) {i : Nat} {v : Int64} (hd : decode c.code pc = .ok (.lload i, 2)) (hl : L[i]? = some (.val (.long v))) (k : Go p e below P (T.setTop (mkF m (pc + 2) L (.long v :: st)))) : Go p e below P (T.setTop (mkF m pc L st)) := Go.via (fun _ q => XT.lload X.here hx rfl hd hl q) k
theorem istoreN (X : Stand p l e R s m args below meth c T locs cells slots) (hx : p.tables.exec = Jvm.exec) {i : Fin 4} {v : Int32} (L' : Array Slot) (hd : decode c.code pc = .ok (.istore_n i, 1)) (hl : storeLocals L i.val (.int v) = some L') (k : Go p e below P (T.setTop (mkF m (pc + 1) L' st))) : Go p e below P (T.setTop (mkF m pc L (.int v :: st))) := Go.via (fun _ q => XS.istoreN X.here hx rfl hd rfl hl q) k
theorem istore (X : Stand p l e R s m args below meth c T locs cells slots) (hx : p.tables.exec = Jvm.exec) {i : Nat} {v : Int32} (L' : Array Slot) (hd : decode c.code pc = .ok (.istore i, 2)) (hl : storeLocals L i (.int v) = some L') (k : Go p e below P (T.setTop (mkF m (pc + 2) L' st))) : Go p e below P (T.setTop (mkF m pc L (.int v :: st))) := Go.via (fun _ q => XS.istore X.here hx rfl hd rfl hl q) k
theorem lstoreN (X : Stand p l e R s m args below meth c T locs cells slots) (hx : p.tables.exec = Jvm.exec) {i : Fin 4} {v : Int64} (L' : Array Slot) (hd : decode c.code pc = .ok (.lstore_n i, 1)) (hl : storeLocals L i.val (.long v) = some L') (k : Go p e below P (T.setTop (mkF m (pc + 1) L' st))) : Go p e below P (T.setTop (mkF m pc L (.long v :: st))) := Go.via (fun _ q => XT.lstoreN X.here hx rfl hd rfl hl q) k
theorem lstore (X : Stand p l e R s m args below meth c T locs cells slots) (hx : p.tables.exec = Jvm.exec) {i : Nat} {v : Int64} (L' : Array Slot) (hd : decode c.code pc = .ok (.lstore i, 2)) (hl : storeLocals L i (.long v) = some L') (k : Go p e below P (T.setTop (mkF m (pc + 2) L' st))) : Go p e below P (T.setTop (mkF m pc L (.long v :: st))) := Go.via (fun _ q => XT.lstore X.here hx rfl hd rfl hl q) k
theorem astoreN (X : Stand p l e R s m args below meth c T locs cells slots) (hx : p.tables.exec = Jvm.exec) {i : Fin 4} {v : Value} (L' : Array Slot) (hd : decode c.code pc = .ok (.astore_n i, 1)) (hv : v.isRef = true) (hl : storeLocals L i.val v = some L') (k : Go p e below P (T.setTop (mkF m (pc + 1) L' st))) : Go p e below P (T.setTop (mkF m pc L (v :: st))) := Go.via (fun _ q => XS.astoreN X.here hx rfl hd rfl hv hl q) k
theorem astore (X : Stand p l e R s m args below meth c T locs cells slots) (hx : p.tables.exec = Jvm.exec) {i : Nat} {v : Value} (L' : Array Slot) (hd : decode c.code pc = .ok (.astore i, 2)) (hv : v.isRef = true) (hl : storeLocals L i v = some L') (k : Go p e below P (T.setTop (mkF m (pc + 2) L' st))) : Go p e below P (T.setTop (mkF m pc L (v :: st))) := Go.via (fun _ q => XS.astore X.here hx rfl hd rfl hv hl q) k
theorem iconst (X : Stand p l e R s m args below meth c T locs cells slots) (hx : p.tables.exec = Jvm.exec) {i : Int} (v : Int32) (hd : decode c.code pc = .ok (.iconst i, 1)) (hv : Int32.ofInt i = v) (k : Go p e below P (T.setTop (mkF m (pc + 1) L (.int v :: st)))) : Go p e below P (T.setTop (mkF m pc L st)) := Go.via (fun _ q => XS.iconst X.here hx rfl hd (hv ▸ q)) k
theorem bipush (X : Stand p l e R s m args below meth c T locs cells slots) (hx : p.tables.exec = Jvm.exec) {i : Int} (v : Int32) (hd : decode c.code pc = .ok (.bipush i, 2)) (hv : (Int8.ofInt i).toInt32 = v) (k : Go p e below P (T.setTop (mkF m (pc + 2) L (.int v :: st)))) : Go p e below P (T.setTop (mkF m pc L st)) := Go.via (fun _ q => XS.bipush X.here hx rfl hd (hv ▸ q)) k
theorem sipush (X : Stand p l e R s m args below meth c T locs cells slots) (hx : p.tables.exec = Jvm.exec) {i : Int} (v : Int32) (hd : decode c.code pc = .ok (.sipush i, 3)) (hv : (Int16.ofInt i).toInt32 = v) (k : Go p e below P (T.setTop (mkF m (pc + 3) L (.int v :: st)))) : Go p e below P (T.setTop (mkF m pc L st)) := Go.via (fun _ q => XS.sipush X.here hx rfl hd (hv ▸ q)) k
theorem lconst (X : Stand p l e R s m args below meth c T locs cells slots) (hx : p.tables.exec = Jvm.exec) {i : Fin 2} (v : Int64) (hd : decode c.code pc = .ok (.lconst i, 1)) (hv : Int64.ofNat i = v) (k : Go p e below P (T.setTop (mkF m (pc + 1) L (.long v :: st)))) : Go p e below P (T.setTop (mkF m pc L st)) := Go.via (fun _ q => XT.lconst X.here hx rfl hd (hv ▸ q)) k
theorem aconstNull (X : Stand p l e R s m args below meth c T locs cells slots) (hx : p.tables.exec = Jvm.exec) (hd : decode c.code pc = .ok (.aconst_null, 1)) (k : Go p e below P (T.setTop (mkF m (pc + 1) L (.null :: st)))) : Go p e below P (T.setTop (mkF m pc L st)) := Go.via (fun _ q => XS.aconstNull X.here hx rfl hd q) k
theorem ldcI (X : Stand p l e R s m args below meth c T locs cells slots) (hx : p.tables.exec = Jvm.exec) (hZ : Z.Warmed39 s.vm) {own : String} {i : Nat} {v : Int32} (hown : s.vm.findClass own = some m.cls) (w : (Cond.constant own i v).before a0 Z = true) (hd : decode c.code pc = .ok (.ldc i, 2)) (k : Go p e below P (T.setTop (mkF m (pc + 2) L (.int v :: st)))) : Go p e below P (T.setTop (mkF m pc L st)) := Go.via (fun _ q => X.ldcI hx hown (mvT hZ w) rfl hd q) k
theorem ldcWI (X : Stand p l e R s m args below meth c T locs cells slots) (hx : p.tables.exec = Jvm.exec) (hZ : Z.Warmed39 s.vm) {own : String} {i : Nat} {v : Int32} (hown : s.vm.findClass own = some m.cls) (w : (Cond.constant own i v).before a0 Z = true) (hd : decode c.code pc = .ok (.ldc_w i, 3)) (k : Go p e below P (T.setTop (mkF m (pc + 3) L (.int v :: st)))) : Go p e below P (T.setTop (mkF m pc L st)) := Go.via (fun _ q => X.ldcWI hx hown (mvT hZ w) rfl hd q) k
theorem ldc2J (X : Stand p l e R s m args below meth c T locs cells slots) (hx : p.tables.exec = Jvm.exec) (hZ : Z.Warmed39 s.vm) {own : String} {i : Nat} {v : Int64} (hown : s.vm.findClass own = some m.cls) (w : (Cond.constantLong own i v).before a0 Z = true) (hd : decode c.code pc = .ok (.ldc2_w i, 3)) (k : Go p e below P (T.setTop (mkF m (pc + 3) L (.long v :: st)))) : Go p e below P (T.setTop (mkF m pc L st)) := Go.via (fun _ q => X.ldc2J hx hown (mvT hZ w) rfl hd q) k
theorem iinc (X : Stand p l e R s m args below meth c T locs cells slots) (hx : p.tables.exec = Jvm.exec) {i : Nat} {d : Int} {x : Int32} (v : Int32) (L' : Array Slot) (hd : decode c.code pc = .ok (.iinc i d, 3)) (hv : Int32.ofInt d = v) (hl : L[i]? = some (.val (.int x))) (hl' : storeLocals L i (.int (x + v)) = some L') (k : Go p e below P (T.setTop (mkF m (pc + 3) L' st))) : Go p e below P (T.setTop (mkF m pc L st)) := Go.via (fun _ q => XS.iinc X.here hx rfl hd hl (hv ▸ hl') q) k
theorem goto (X : Stand p l e R s m args below meth c T locs cells slots) (hx : p.tables.exec = Jvm.exec) {o : Int} (pc' : Nat) (hd : decode c.code pc = .ok (.goto o, 3)) (ho : 0 ≤ (pc : Int) + o) (hp : ((pc : Int) + o).toNat = pc') (k : Go p e below P (T.setTop (mkF m pc' L st))) : Go p e below P (T.setTop (mkF m pc L st)) := Go.via (fun _ q => XS.goto X.here hx rfl rfl hd ho hp q) k
theorem ifYes (X : Stand p l e R s m args below meth c T locs cells slots) (hx : p.tables.exec = Jvm.exec) {cd : ClassFile.Cond} {x : Int32} {o : Int} (pc' : Nat) (hd : decode c.code pc = .ok (.ifCond cd o, 3)) (hc : ifCond.holds cd x = true) (ho : 0 ≤ (pc : Int) + o) (hp : ((pc : Int) + o).toNat = pc') (k : Go p e below P (T.setTop (mkF m pc' L st))) : Go p e below P (T.setTop (mkF m pc L (.int x :: st))) := Go.via (fun _ q => XS.ifYes X.here hx rfl rfl hd rfl hc ho hp q) k
theorem ifNo (X : Stand p l e R s m args below meth c T locs cells slots) (hx : p.tables.exec = Jvm.exec) {cd : ClassFile.Cond} {x : Int32} {o : Int} (hd : decode c.code pc = .ok (.ifCond cd o, 3)) (hc : ifCond.holds cd x = false) (k : Go p e below P (T.setTop (mkF m (pc + 3) L st))) : Go p e below P (T.setTop (mkF m pc L (.int x :: st))) := Go.via (fun _ q => XS.ifNo X.here hx rfl hd rfl hc q) k
theorem icmpYes (X : Stand p l e R s m args below meth c T locs cells slots) (hx : p.tables.exec = Jvm.exec) {cd : ClassFile.Cond} {x y : Int32} {o : Int} (pc' : Nat) (hd : decode c.code pc = .ok (.if_icmp cd o, 3)) (hc : if_icmp.holds cd x y = true) (ho : 0 ≤ (pc : Int) + o) (hp : ((pc : Int) + o).toNat = pc') (k : Go p e below P (T.setTop (mkF m pc' L st))) : Go p e below P (T.setTop (mkF m pc L (.int y :: .int x :: st))) := Go.via (fun _ q => XS.icmpYes X.here hx rfl rfl hd rfl hc ho hp q) k
theorem icmpNo (X : Stand p l e R s m args below meth c T locs cells slots) (hx : p.tables.exec = Jvm.exec) {cd : ClassFile.Cond} {x y : Int32} {o : Int} (hd : decode c.code pc = .ok (.if_icmp cd o, 3)) (hc : if_icmp.holds cd x y = false) (k : Go p e below P (T.setTop (mkF m (pc + 3) L st))) : Go p e below P (T.setTop (mkF m pc L (.int y :: .int x :: st))) := Go.via (fun _ q => XS.icmpNo X.here hx rfl hd rfl hc q) k
theorem ifnullYes (X : Stand p l e R s m args below meth c T locs cells slots) (hx : p.tables.exec = Jvm.exec) {o : Int} (pc' : Nat) (hd : decode c.code pc = .ok (.ifnull o, 3)) (ho : 0 ≤ (pc : Int) + o) (hp : ((pc : Int) + o).toNat = pc') (k : Go p e below P (T.setTop (mkF m pc' L st))) : Go p e below P (T.setTop (mkF m pc L (.null :: st))) := Go.via (fun _ q => XS.ifnullYes X.here hx rfl rfl hd rfl ho hp q) k
theorem ifnullNo (X : Stand p l e R s m args below meth c T locs cells slots) (hx : p.tables.exec = Jvm.exec) {o : Int} {b : Addr} (hd : decode c.code pc = .ok (.ifnull o, 3)) (k : Go p e below P (T.setTop (mkF m (pc + 3) L st))) : Go p e below P (T.setTop (mkF m pc L (.ref b :: st))) := Go.via (fun _ q => XS.ifnullNo X.here hx rfl hd rfl q) k
theorem ifnonnullYes (X : Stand p l e R s m args below meth c T locs cells slots) (hx : p.tables.exec = Jvm.exec) {o : Int} {b : Addr} (pc' : Nat) (hd : decode c.code pc = .ok (.ifnonnull o, 3)) (ho : 0 ≤ (pc : Int) + o) (hp : ((pc : Int) + o).toNat = pc') (k : Go p e below P (T.setTop (mkF m pc' L st))) : Go p e below P (T.setTop (mkF m pc L (.ref b :: st))) := Go.via (fun _ q => XT.ifnonnullYes X.here hx rfl rfl hd rfl ho hp q) k
theorem ifnonnullNo (X : Stand p l e R s m args below meth c T locs cells slots) (hx : p.tables.exec = Jvm.exec) {o : Int} (hd : decode c.code pc = .ok (.ifnonnull o, 3)) (k : Go p e below P (T.setTop (mkF m (pc + 3) L st))) : Go p e below P (T.setTop (mkF m pc L (.null :: st))) := Go.via (fun _ q => XT.ifnonnullNo X.here hx rfl hd rfl q) k
theorem dup (X : Stand p l e R s m args below meth c T locs cells slots) (hx : p.tables.exec = Jvm.exec) {v : Value} (hd : decode c.code pc = .ok (.dup, 1)) (hc : v.category = 1) (k : Go p e below P (T.setTop (mkF m (pc + 1) L (v :: v :: st)))) : Go p e below P (T.setTop (mkF m pc L (v :: st))) := Go.via (fun _ q => XS.dup X.here hx rfl hd rfl hc q) k
theorem dup2 (X : Stand p l e R s m args below meth c T locs cells slots) (hx : p.tables.exec = Jvm.exec) {v w : Value} (hd : decode c.code pc = .ok (.dup2, 1)) (hc : v.category = 1) (hc' : w.category = 1) (k : Go p e below P (T.setTop (mkF m (pc + 1) L (v :: w :: v :: w :: st)))) : Go p e below P (T.setTop (mkF m pc L (v :: w :: st))) := Go.via (fun _ q => XT.dup2 X.here hx rfl hd rfl hc hc' q) k
theorem dup2L (X : Stand p l e R s m args below meth c T locs cells slots) (hx : p.tables.exec = Jvm.exec) {v : Int64} (hd : decode c.code pc = .ok (.dup2, 1)) (k : Go p e below P (T.setTop (mkF m (pc + 1) L (.long v :: .long v :: st)))) : Go p e below P (T.setTop (mkF m pc L (.long v :: st))) := Go.via (fun _ q => XT.dup2L X.here hx rfl hd rfl q) k
theorem dupX1 (X : Stand p l e R s m args below meth c T locs cells slots) (hx : p.tables.exec = Jvm.exec) {v w : Value} (hd : decode c.code pc = .ok (.dup_x1, 1)) (hc : v.category = 1) (hc' : w.category = 1) (k : Go p e below P (T.setTop (mkF m (pc + 1) L (v :: w :: v :: st)))) : Go p e below P (T.setTop (mkF m pc L (v :: w :: st))) := Go.via (fun _ q => XT.dupX1 X.here hx rfl hd rfl hc hc' q) k
theorem pop (X : Stand p l e R s m args below meth c T locs cells slots) (hx : p.tables.exec = Jvm.exec) {v : Value} (hd : decode c.code pc = .ok (.pop, 1)) (hc : v.category = 1) (k : Go p e below P (T.setTop (mkF m (pc + 1) L st))) : Go p e below P (T.setTop (mkF m pc L (v :: st))) := Go.via (fun _ q => XT.pop X.here hx rfl hd rfl hc q) k
theorem xdupX2 {e : Env} {below : List Frame} {T target : State} {m : MethodId} {c : Code} {g : JFrame} (h : At T m c below) (hx : p.tables.exec = Jvm.exec) (hg : g.method = m) {x y z : Value} {rest : List Value} (hd : decode c.code g.pc = .ok (.dup_x2, 1)) (hs : g.stack = x :: y :: z :: rest) (hc : x.category = 1) (hc' : y.category = 1) (hc2 : z.category = 1)
    (hr : Steps p.tables e below (T.setTop { g with pc := g.pc + 1, stack := x :: y :: z :: x :: rest }) target) : Steps p.tables e below (T.setTop g) target := by
  subst hg
  jvm_step h [h.top, hx, hd, hs, hc, hc', hc2]
  exact hr
theorem dupX2 (X : Stand p l e R s m args below meth c T locs cells slots) (hx : p.tables.exec = Jvm.exec) {v w u : Value} (hd : decode c.code pc = .ok (.dup_x2, 1)) (hc : v.category = 1) (hc' : w.category = 1) (hc2 : u.category = 1) (k : Go p e below P (T.setTop (mkF m (pc + 1) L (v :: w :: u :: v :: st)))) : Go p e below P (T.setTop (mkF m pc L (v :: w :: u :: st))) := Go.via (fun _ q => xdupX2 X.here hx rfl hd rfl hc hc' hc2 q) k
theorem xdup2X2 {e : Env} {below : List Frame} {T target : State} {m : MethodId} {c : Code} {g : JFrame} (h : At T m c below) (hx : p.tables.exec = Jvm.exec) (hg : g.method = m) {x : Int64} {y z : Value} {rest : List Value} (hd : decode c.code g.pc = .ok (.dup2_x2, 1)) (hs : g.stack = .long x :: y :: z :: rest) (hc' : y.category = 1) (hc2 : z.category = 1)
    (hr : Steps p.tables e below (T.setTop { g with pc := g.pc + 1, stack := .long x :: y :: z :: .long x :: rest }) target) : Steps p.tables e below (T.setTop g) target := by
  subst hg
  jvm_step h [h.top, hx, hd, hs, hc', hc2]
  exact hr
theorem dup2X2 (X : Stand p l e R s m args below meth c T locs cells slots) (hx : p.tables.exec = Jvm.exec) {v : Int64} {w u : Value} (hd : decode c.code pc = .ok (.dup2_x2, 1)) (hc' : w.category = 1) (hc2 : u.category = 1) (k : Go p e below P (T.setTop (mkF m (pc + 1) L (.long v :: w :: u :: .long v :: st)))) : Go p e below P (T.setTop (mkF m pc L (.long v :: w :: u :: st))) := Go.via (fun _ q => xdup2X2 X.here hx rfl hd rfl hc' hc2 q) k
theorem iadd (X : Stand p l e R s m args below meth c T locs cells slots) (hx : p.tables.exec = Jvm.exec) {x y : Int32} (hd : decode c.code pc = .ok (.iadd, 1)) (k : Go p e below P (T.setTop (mkF m (pc + 1) L (.int (x + y) :: st)))) : Go p e below P (T.setTop (mkF m pc L (.int y :: .int x :: st))) := Go.via (fun _ q => XS.iadd X.here hx rfl hd rfl q) k
theorem isub (X : Stand p l e R s m args below meth c T locs cells slots) (hx : p.tables.exec = Jvm.exec) {x y : Int32} (hd : decode c.code pc = .ok (.isub, 1)) (k : Go p e below P (T.setTop (mkF m (pc + 1) L (.int (x - y) :: st)))) : Go p e below P (T.setTop (mkF m pc L (.int y :: .int x :: st))) := Go.via (fun _ q => XS.isub X.here hx rfl hd rfl q) k
theorem imul (X : Stand p l e R s m args below meth c T locs cells slots) (hx : p.tables.exec = Jvm.exec) {x y : Int32} (hd : decode c.code pc = .ok (.imul, 1)) (k : Go p e below P (T.setTop (mkF m (pc + 1) L (.int (x * y) :: st)))) : Go p e below P (T.setTop (mkF m pc L (.int y :: .int x :: st))) := Go.via (fun _ q => XS.imul X.here hx rfl hd rfl q) k
theorem iand (X : Stand p l e R s m args below meth c T locs cells slots) (hx : p.tables.exec = Jvm.exec) {x y : Int32} (hd : decode c.code pc = .ok (.iand, 1)) (k : Go p e below P (T.setTop (mkF m (pc + 1) L (.int (x &&& y) :: st)))) : Go p e below P (T.setTop (mkF m pc L (.int y :: .int x :: st))) := Go.via (fun _ q => XS.iand X.here hx rfl hd rfl q) k
theorem ior (X : Stand p l e R s m args below meth c T locs cells slots) (hx : p.tables.exec = Jvm.exec) {x y : Int32} (hd : decode c.code pc = .ok (.ior, 1)) (k : Go p e below P (T.setTop (mkF m (pc + 1) L (.int (x ||| y) :: st)))) : Go p e below P (T.setTop (mkF m pc L (.int y :: .int x :: st))) := Go.via (fun _ q => XT.ior X.here hx rfl hd rfl q) k
theorem ixor (X : Stand p l e R s m args below meth c T locs cells slots) (hx : p.tables.exec = Jvm.exec) {x y : Int32} (hd : decode c.code pc = .ok (.ixor, 1)) (k : Go p e below P (T.setTop (mkF m (pc + 1) L (.int (x ^^^ y) :: st)))) : Go p e below P (T.setTop (mkF m pc L (.int y :: .int x :: st))) := Go.via (fun _ q => XT.ixor X.here hx rfl hd rfl q) k
theorem ishl (X : Stand p l e R s m args below meth c T locs cells slots) (hx : p.tables.exec = Jvm.exec) {x y : Int32} (hd : decode c.code pc = .ok (.ishl, 1)) (k : Go p e below P (T.setTop (mkF m (pc + 1) L (.int (x <<< (y &&& 31)) :: st)))) : Go p e below P (T.setTop (mkF m pc L (.int y :: .int x :: st))) := Go.via (fun _ q => XT.ishl X.here hx rfl hd rfl q) k
theorem ishr (X : Stand p l e R s m args below meth c T locs cells slots) (hx : p.tables.exec = Jvm.exec) {x y : Int32} (hd : decode c.code pc = .ok (.ishr, 1)) (k : Go p e below P (T.setTop (mkF m (pc + 1) L (.int (x >>> (y &&& 31)) :: st)))) : Go p e below P (T.setTop (mkF m pc L (.int y :: .int x :: st))) := Go.via (fun _ q => XT.ishr X.here hx rfl hd rfl q) k
theorem iushr (X : Stand p l e R s m args below meth c T locs cells slots) (hx : p.tables.exec = Jvm.exec) {x y : Int32} (hd : decode c.code pc = .ok (.iushr, 1)) (k : Go p e below P (T.setTop (mkF m (pc + 1) L (.int (XT.ushr x y) :: st)))) : Go p e below P (T.setTop (mkF m pc L (.int y :: .int x :: st))) := Go.via (fun _ q => XT.iushr X.here hx rfl hd rfl q) k
theorem idiv (X : Stand p l e R s m args below meth c T locs cells slots) (hx : p.tables.exec = Jvm.exec) {x y : Int32} (hd : decode c.code pc = .ok (.idiv, 1)) (hy : y ≠ 0) (k : Go p e below P (T.setTop (mkF m (pc + 1) L (.int (x / y) :: st)))) : Go p e below P (T.setTop (mkF m pc L (.int y :: .int x :: st))) := Go.via (fun _ q => XS.idiv X.here hx rfl hd rfl hy q) k
theorem irem (X : Stand p l e R s m args below meth c T locs cells slots) (hx : p.tables.exec = Jvm.exec) {x y : Int32} (hd : decode c.code pc = .ok (.irem, 1)) (hy : y ≠ 0) (k : Go p e below P (T.setTop (mkF m (pc + 1) L (.int (x % y) :: st)))) : Go p e below P (T.setTop (mkF m pc L (.int y :: .int x :: st))) := Go.via (fun _ q => iremM X hx (g := mkF m pc L (.int y :: .int x :: st)) rfl hd rfl hy q) k
theorem ladd (X : Stand p l e R s m args below meth c T locs cells slots) (hx : p.tables.exec = Jvm.exec) {x y : Int64} (hd : decode c.code pc = .ok (.ladd, 1)) (k : Go p e below P (T.setTop (mkF m (pc + 1) L (.long (x + y) :: st)))) : Go p e below P (T.setTop (mkF m pc L (.long y :: .long x :: st))) := Go.via (fun _ q => XT.ladd X.here hx rfl hd rfl q) k
theorem lsub (X : Stand p l e R s m args below meth c T locs cells slots) (hx : p.tables.exec = Jvm.exec) {x y : Int64} (hd : decode c.code pc = .ok (.lsub, 1)) (k : Go p e below P (T.setTop (mkF m (pc + 1) L (.long (x - y) :: st)))) : Go p e below P (T.setTop (mkF m pc L (.long y :: .long x :: st))) := Go.via (fun _ q => XT.lsub X.here hx rfl hd rfl q) k
theorem lmul (X : Stand p l e R s m args below meth c T locs cells slots) (hx : p.tables.exec = Jvm.exec) {x y : Int64} (hd : decode c.code pc = .ok (.lmul, 1)) (k : Go p e below P (T.setTop (mkF m (pc + 1) L (.long (x * y) :: st)))) : Go p e below P (T.setTop (mkF m pc L (.long y :: .long x :: st))) := Go.via (fun _ q => XT.lmul X.here hx rfl hd rfl q) k
theorem land (X : Stand p l e R s m args below meth c T locs cells slots) (hx : p.tables.exec = Jvm.exec) {x y : Int64} (hd : decode c.code pc = .ok (.land, 1)) (k : Go p e below P (T.setTop (mkF m (pc + 1) L (.long (x &&& y) :: st)))) : Go p e below P (T.setTop (mkF m pc L (.long y :: .long x :: st))) := Go.via (fun _ q => XT.land X.here hx rfl hd rfl q) k
theorem lor (X : Stand p l e R s m args below meth c T locs cells slots) (hx : p.tables.exec = Jvm.exec) {x y : Int64} (hd : decode c.code pc = .ok (.lor, 1)) (k : Go p e below P (T.setTop (mkF m (pc + 1) L (.long (x ||| y) :: st)))) : Go p e below P (T.setTop (mkF m pc L (.long y :: .long x :: st))) := Go.via (fun _ q => XT.lor X.here hx rfl hd rfl q) k
theorem lxor (X : Stand p l e R s m args below meth c T locs cells slots) (hx : p.tables.exec = Jvm.exec) {x y : Int64} (hd : decode c.code pc = .ok (.lxor, 1)) (k : Go p e below P (T.setTop (mkF m (pc + 1) L (.long (x ^^^ y) :: st)))) : Go p e below P (T.setTop (mkF m pc L (.long y :: .long x :: st))) := Go.via (fun _ q => XT.lxor X.here hx rfl hd rfl q) k
theorem lshl (X : Stand p l e R s m args below meth c T locs cells slots) (hx : p.tables.exec = Jvm.exec) {x : Int64} {y : Int32} (hd : decode c.code pc = .ok (.lshl, 1)) (k : Go p e below P (T.setTop (mkF m (pc + 1) L (.long (x <<< (y.toInt64 &&& 63)) :: st)))) : Go p e below P (T.setTop (mkF m pc L (.int y :: .long x :: st))) := Go.via (fun _ q => XT.lshl X.here hx rfl hd rfl q) k
theorem lshr (X : Stand p l e R s m args below meth c T locs cells slots) (hx : p.tables.exec = Jvm.exec) {x : Int64} {y : Int32} (hd : decode c.code pc = .ok (.lshr, 1)) (k : Go p e below P (T.setTop (mkF m (pc + 1) L (.long (x >>> (y.toInt64 &&& 63)) :: st)))) : Go p e below P (T.setTop (mkF m pc L (.int y :: .long x :: st))) := Go.via (fun _ q => XT.lshr X.here hx rfl hd rfl q) k
theorem lushr (X : Stand p l e R s m args below meth c T locs cells slots) (hx : p.tables.exec = Jvm.exec) {x : Int64} {y : Int32} (hd : decode c.code pc = .ok (.lushr, 1)) (k : Go p e below P (T.setTop (mkF m (pc + 1) L (.long (XT.ushrL x y) :: st)))) : Go p e below P (T.setTop (mkF m pc L (.int y :: .long x :: st))) := Go.via (fun _ q => XT.lushr X.here hx rfl hd rfl q) k
theorem ldiv (X : Stand p l e R s m args below meth c T locs cells slots) (hx : p.tables.exec = Jvm.exec) {x y : Int64} (hd : decode c.code pc = .ok (.ldiv, 1)) (hy : y ≠ 0) (k : Go p e below P (T.setTop (mkF m (pc + 1) L (.long (x / y) :: st)))) : Go p e below P (T.setTop (mkF m pc L (.long y :: .long x :: st))) := Go.via (fun _ q => XT.ldiv X.here hx rfl hd rfl hy q) k
theorem lrem (X : Stand p l e R s m args below meth c T locs cells slots) (hx : p.tables.exec = Jvm.exec) {x y : Int64} (hd : decode c.code pc = .ok (.lrem, 1)) (hy : y ≠ 0) (k : Go p e below P (T.setTop (mkF m (pc + 1) L (.long (x % y) :: st)))) : Go p e below P (T.setTop (mkF m pc L (.long y :: .long x :: st))) := Go.via (fun _ q => XT.lrem X.here hx rfl hd rfl hy (by rw [lrem_mod]; exact q)) k
theorem ineg (X : Stand p l e R s m args below meth c T locs cells slots) (hx : p.tables.exec = Jvm.exec) {x : Int32} (hd : decode c.code pc = .ok (.ineg, 1)) (k : Go p e below P (T.setTop (mkF m (pc + 1) L (.int ((-x)) :: st)))) : Go p e below P (T.setTop (mkF m pc L (.int x :: st))) := Go.via (fun _ q => XS.ineg X.here hx rfl hd rfl q) k
theorem lneg (X : Stand p l e R s m args below meth c T locs cells slots) (hx : p.tables.exec = Jvm.exec) {x : Int64} (hd : decode c.code pc = .ok (.lneg, 1)) (k : Go p e below P (T.setTop (mkF m (pc + 1) L (.long ((-x)) :: st)))) : Go p e below P (T.setTop (mkF m pc L (.long x :: st))) := Go.via (fun _ q => XT.lneg X.here hx rfl hd rfl q) k
theorem i2l (X : Stand p l e R s m args below meth c T locs cells slots) (hx : p.tables.exec = Jvm.exec) {x : Int32} (hd : decode c.code pc = .ok (.i2l, 1)) (k : Go p e below P (T.setTop (mkF m (pc + 1) L (.long (x.toInt64) :: st)))) : Go p e below P (T.setTop (mkF m pc L (.int x :: st))) := Go.via (fun _ q => XT.i2l X.here hx rfl hd rfl q) k
theorem l2i (X : Stand p l e R s m args below meth c T locs cells slots) (hx : p.tables.exec = Jvm.exec) {x : Int64} (hd : decode c.code pc = .ok (.l2i, 1)) (k : Go p e below P (T.setTop (mkF m (pc + 1) L (.int (x.toInt32) :: st)))) : Go p e below P (T.setTop (mkF m pc L (.long x :: st))) := Go.via (fun _ q => XT.l2i X.here hx rfl hd rfl q) k
theorem i2b (X : Stand p l e R s m args below meth c T locs cells slots) (hx : p.tables.exec = Jvm.exec) {x : Int32} (hd : decode c.code pc = .ok (.i2b, 1)) (k : Go p e below P (T.setTop (mkF m (pc + 1) L (.int (x.toInt8.toInt32) :: st)))) : Go p e below P (T.setTop (mkF m pc L (.int x :: st))) := Go.via (fun _ q => XT.i2b X.here hx rfl hd rfl q) k
theorem i2c (X : Stand p l e R s m args below meth c T locs cells slots) (hx : p.tables.exec = Jvm.exec) {x : Int32} (hd : decode c.code pc = .ok (.i2c, 1)) (k : Go p e below P (T.setTop (mkF m (pc + 1) L (.int (x.toUInt32.toUInt16.toUInt32.toInt32) :: st)))) : Go p e below P (T.setTop (mkF m pc L (.int x :: st))) := Go.via (fun _ q => XT.i2c X.here hx rfl hd rfl q) k
theorem i2s (X : Stand p l e R s m args below meth c T locs cells slots) (hx : p.tables.exec = Jvm.exec) {x : Int32} (hd : decode c.code pc = .ok (.i2s, 1)) (k : Go p e below P (T.setTop (mkF m (pc + 1) L (.int (x.toInt16.toInt32) :: st)))) : Go p e below P (T.setTop (mkF m pc L (.int x :: st))) := Go.via (fun _ q => XT.i2s X.here hx rfl hd rfl q) k
theorem lcmp (X : Stand p l e R s m args below meth c T locs cells slots) (hx : p.tables.exec = Jvm.exec) {x y : Int64} (hd : decode c.code pc = .ok (.lcmp, 1)) (k : Go p e below P (T.setTop (mkF m (pc + 1) L (.int (XT.cmpL x y) :: st)))) : Go p e below P (T.setTop (mkF m pc L (.long y :: .long x :: st))) := Go.via (fun _ q => XT.lcmp X.here hx rfl hd rfl q) k
theorem iincV (X : Stand p l e R s m args below meth c T locs cells slots) (hx : p.tables.exec = Jvm.exec) {i : Nat} {d : Int} {x : Int32} (v w : Int32) (L' : Array Slot) (hd : decode c.code pc = .ok (.iinc i d, 3)) (hv : Int32.ofInt d = v) (hl : L[i]? = some (.val (.int x))) (hw : x + v = w) (hl' : storeLocals L i (.int w) = some L') (k : Go p e below P (T.setTop (mkF m (pc + 3) L' st))) : Go p e below P (T.setTop (mkF m pc L st)) := Go.via (fun _ q => XS.iinc X.here hx rfl hd hl (hv ▸ hw ▸ hl') q) k
theorem topI {x y : Int32} (q : x = y) (k : Go p e below P (T.setTop (mkF m pc L (.int y :: st)))) : Go p e below P (T.setTop (mkF m pc L (.int x :: st))) := q ▸ k
theorem topJ {x y : Int64} (q : x = y) (k : Go p e below P (T.setTop (mkF m pc L (.long y :: st)))) : Go p e below P (T.setTop (mkF m pc L (.long x :: st))) := q ▸ k
/-! returns -/
theorem leaveR (X : Stand p l e R s m args below meth c T locs cells slots) (hk : meth.locks = false) {Q : Option Value → Heap → List Loc → Prop} {k n : Nat} {g : JFrame} {v : Option Value} (hv : meth.sig.returnType = none → v = none) (eT : T.heap = h) (hQ : Q v h locs) (hc : cells ≤ k) (hn : slots ≤ n)
    (st : ∀ fs, (∀ (f : JFrame) (acts : List Action), f.method = m → f.locked = none → f.entered = [] → (doReturn e (T.setTop f) acts v).1 = T.setFrames fs) → Steps p.tables e below (T.setTop g) (T.setFrames fs)) : Go p e below (Fini s Q k n) (T.setTop g) := by
  obtain ⟨fs, hr, hrun, hended, hW, hsame⟩ := X.leave (v := v) hv hk
  exact ⟨_, _, st fs hr, hrun, hended, _, _, rfl, by show Q v T.heap locs; rw [eT]; exact hQ, ⟨_, rfl⟩, hW, hsame.mono hc hn⟩
theorem ireturn (X : Stand p l e R s m args below meth c T locs cells slots) (hx : p.tables.exec = Jvm.exec) (hk : meth.locks = false) {Q : Option Value → Heap → List Loc → Prop} {k n : Nat} {t : FieldType} {z : Int32} (hret : meth.sig.returnType = some t) (ht : t = .int ∨ t = .boolean ∨ t = .byte ∨ t = .char ∨ t = .short) (hnr : narrow t (.int z) = .int z) (hd : decode c.code pc = .ok (.ireturn, 1)) (eT : T.heap = h) (hQ : Q (some (.int z)) h locs) (hc : cells ≤ k) (hn : slots ≤ n) : Go p e below (Fini s Q k n) (T.setTop (mkF m pc L (.int z :: rest))) :=
  leaveR X hk (v := some (.int z)) (fun q => by rw [hret] at q; cases q) eT hQ hc hn fun fs hr => retOut X hx hret hnr (Or.inl ⟨rfl, ht, z, rfl⟩) hd hr
theorem lreturn (X : Stand p l e R s m args below meth c T locs cells slots) (hx : p.tables.exec = Jvm.exec) (hk : meth.locks = false) {Q : Option Value → Heap → List Loc → Prop} {k n : Nat} {z : Int64} (hret : meth.sig.returnType = some .long) (hd : decode c.code pc = .ok (.lreturn, 1)) (eT : T.heap = h) (hQ : Q (some (.long z)) h locs) (hc : cells ≤ k) (hn : slots ≤ n) : Go p e below (Fini s Q k n) (T.setTop (mkF m pc L (.long z :: rest))) :=
  leaveR X hk (v := some (.long z)) (fun q => by rw [hret] at q; cases q) eT hQ hc hn fun fs hr => retOut X hx hret rfl (Or.inr (Or.inl ⟨rfl, rfl, z, rfl⟩)) hd hr
theorem areturn (X : Stand p l e R s m args below meth c T locs cells slots) (hx : p.tables.exec = Jvm.exec) (hk : meth.locks = false) {Q : Option Value → Heap → List Loc → Prop} {k n : Nat} {t : FieldType} {z : Value} (hret : meth.sig.returnType = some t) (ht : t.isReference = true) (hz : z.isRef = true) (hnr : narrow t z = z) (hd : decode c.code pc = .ok (.areturn, 1)) (eT : T.heap = h) (hQ : Q (some z) h locs) (hc : cells ≤ k) (hn : slots ≤ n) : Go p e below (Fini s Q k n) (T.setTop (mkF m pc L (z :: rest))) :=
  leaveR X hk (v := some z) (fun q => by rw [hret] at q; cases q) eT hQ hc hn fun fs hr => retOut X hx hret hnr (Or.inr (Or.inr (Or.inr (Or.inr ⟨rfl, ht, hz⟩)))) hd hr
theorem vreturn (X : Stand p l e R s m args below meth c T locs cells slots) (hx : p.tables.exec = Jvm.exec) (hk : meth.locks = false) {Q : Option Value → Heap → List Loc → Prop} {k n : Nat} (hret : meth.sig.returnType = none) (hd : decode c.code pc = .ok (.return_, 1)) (eT : T.heap = h) (hQ : Q none h locs) (hc : cells ≤ k) (hn : slots ≤ n) : Go p e below (Fini s Q k n) (T.setTop (mkF m pc L [])) :=
  leaveR X hk (v := none) (fun _ => rfl) eT hQ hc hn fun fs hr => X.returnOut hx hret hd hr
/-! String constants: the start with the tables at hand -/
def FiniW (s : State) (Q : Option Value → Heap → List Loc → Prop) (k n : Nat) (o : Outcome) (U : State) : Prop :=
  ∃ v L, o = .returned v ∧ Q v U.heap L ∧ ReturnedEndW s o U L k n
def CtW (l : Launch) (y : MethodName) (bytes : ByteArray) (maxL : Nat) (ret : Option FieldType) (ws : List Jvm.Cond) (rm : Room) (Z : State) (as : Array Value) (h : Heap) (Q : Option Value → Heap → List Loc → Prop) : Prop :=
  MetFree l y (head1 (Jvm.Cond.code y bytes maxL ret :: ws) rm) (fun a U => a = as ∧ Z.Warmed39 U.vm ∧ U.heap = h) (fun _ _ _ _ _ => True) (fun _ U o U' => ∃ v L, o = .returned v ∧ Q v U'.heap L ∧ ReturnedEndW U o U' L rm.cells rm.slots)
theorem enterW {y : MethodName} {bytes : ByteArray} {maxL : Nat} {ret : Option FieldType} {ws : List Jvm.Cond} {rm : Room} {as : Array Value} {Q : Option Value → Heap → List Loc → Prop} (hy : plainFor y = true)
    (body : ∀ p e s m below meth c s₁, p.tables.exec = Jvm.exec → c.code = bytes → c.maxLocals = maxL → s.vm.findClass y.cls = some m.cls → meth.name = y.name → meth.sig.returnType = ret → meth.locks = false → Z.Warmed39 s.vm →
      Stand p l e rm s m as below meth c s₁ [] 0 0 → s₁.heap = h → Go p e below (FiniW s Q rm.cells rm.slots) (s₁.setTop (entryFrame m as maxL))) : CtW l y bytes maxL ret ws rm Z as h Q := by
  refine MetFree.of_bodySF hy hisR ?_
  intro p e s m args below meth c s₁ Bd hml hP hK
  obtain ⟨rfl, hZ, hh⟩ := hP
  exact body p e s m below meth c s₁ Bd.exec Bd.bytes hml (findClass_of_methodNamed Bd.named) (name_of_methodNamed Bd.named Bd.method).1 Bd.returns Bd.notSynchronized hZ (Stand.of_body Bd) (by rw [← hh, Bd.state]; rfl)
theorem since0 (s : State) : s.Since s.vm 0 := State.WarmedH.since (State.WarmedH.refl s) 0
theorem ldcStr {vm0 : Vm} (X : Stand p l e R (s.setVm vm0) m args below meth c T locs cells slots) (hx : p.tables.exec = Jvm.exec) (hZ : Z.Warmed39 vm0) {own text : String} {i : Nat} (hown : vm0.findClass own = some m.cls) (w : (Cond.stringLink own i text).before a0 Z = true) (wS : ∀ a ∈ Bundle.stringAtoms, a.before a0 Z = true)
    (eT : T.heap = h) {k0 : Nat} (hS : s.Since vm0 k0) (hk : k0 ≤ h.size) (hd : decode c.code pc = .ok (.ldc i, 2)) (n : Nat) (hn : 4 * text.toList.length ≤ n) (hbig : n ≤ 536870912) (hc : cells + 2 ≤ R.cells) (hl : slots + (n + 4) ≤ R.slots)
    (k : ∀ (a : Addr) (T' : State) (h' : Heap) (k1 : Nat), Stand p l e R (s.setVm T'.vm) m args below meth c T' locs (cells + 2) (slots + (n + 4)) → T'.heap = h' → Ext h h' → s.Since T'.vm k1 → k1 ≤ h'.size → Z.Warmed39 (s.setVm T'.vm).vm → (s.setVm T'.vm).vm.findClass own = some m.cls → Go p e below P (T'.setTop (mkF m (pc + 2) L (.ref a :: st)))) : Go p e below P (T.setTop (mkF m pc L st)) := by
  obtain ⟨a, T', h', k1, X', e', E, hS', hk', hZ', hown', q⟩ := ldcS X hx hZ hown w wS eT hS hk (g := mkF m pc L st) rfl hd hn hbig hc hl
  exact Go.via q (k a T' h' k1 X' e' E hS' hk' hZ' hown')
theorem ireturnW {vm0 : Vm} (X : Stand p l e R (s.setVm vm0) m args below meth c T locs cells slots) (hx : p.tables.exec = Jvm.exec) (hk : meth.locks = false) {Q : Option Value → Heap → List Loc → Prop} {k n : Nat} {t : FieldType} {z : Int32} (hret : meth.sig.returnType = some t) (ht : t = .int ∨ t = .boolean ∨ t = .byte ∨ t = .char ∨ t = .short) (hnr : narrow t (.int z) = .int z) (hd : decode c.code pc = .ok (.ireturn, 1)) (eT : T.heap = h) {k0 : Nat} (hS : s.Since vm0 k0) (hk0 : k0 ≤ h.size) (hQ : Q (some (.int z)) h locs) (hc : cells ≤ k) (hn : slots ≤ n) : Go p e below (FiniW s Q k n) (T.setTop (mkF m pc L (.int z :: rest))) := by
  obtain ⟨fs, hr, hrun, hended, hW⟩ := X.leaveW hS (by rw [eT]; exact hk0) (v := some (.int z)) (fun q => by rw [hret] at q; cases q) hk
  exact ⟨_, _, retOut X hx hret hnr (Or.inl ⟨rfl, ht, z, rfl⟩) hd hr, hrun, hended, _, _, rfl, by show Q (some (.int z)) T.heap locs; rw [eT]; exact hQ, hW.1, hW.2.1, hW.2.2.1, hW.2.2.2.mono hc hn⟩
/-! fields, objects -/
theorem getfield (X : Stand p l e R s m args below meth c T locs cells slots) (hx : p.tables.exec = Jvm.exec) (hZ : Z.Warmed39 s.vm) {own R0 O n d host : String} {i : Nat} (hown : s.vm.findClass own = some m.cls) (w : (Cond.fieldLink own i R0 n d).before a0 Z = true ∨ (Cond.fieldLinkNest own i R0 n d host).before a0 Z = true) (via : Via Z R0 O n d)
    (eT : T.heap = h) {a : Addr} {v : Value} (F : Fld Z h a O n d v) (hd : decode c.code pc = .ok (.getfield i, 3)) (k : ∀ T', Stand p l e R s m args below meth c T' locs cells slots → T'.heap = h → Go p e below P (T'.setTop (mkF m (pc + 3) L (v :: st)))) : Go p e below P (T.setTop (mkF m pc L (.ref a :: st))) := by
  obtain ⟨T', X', e', q⟩ := getF X hx hZ hown w via eT F (g := mkF m pc L (.ref a :: st)) rfl rfl hd
  exact Go.via q (k T' X' e')
theorem putfield (X : Stand p l e R s m args below meth c T locs cells slots) (hx : p.tables.exec = Jvm.exec) (hZ : Z.Warmed39 s.vm) {own R0 O n d host C : String} {i kk : Nat} {ty : FieldType} (hown : s.vm.findClass own = some m.cls) (w : (Cond.fieldLink own i R0 n d).before a0 Z = true ∨ (Cond.fieldLinkNest own i R0 n d host).before a0 Z = true) (via : Via Z R0 O n d)
    (eT : T.heap = h) {a : Addr} {v old : Value} (F : Fld Z h a O n d old) (E : Exa Z h a C) (Ly : (Cond.lays C O n d).before a0 Z = true ∨ ((Cond.laysFinal C O n d).before a0 Z = true ∧ own = O ∧ meth.name = "<init>")) (wi : (Cond.instantiable C kk).before a0 Z = true)
    (hty : parseFieldDescriptor d = some ty) (hn : narrow ty v = v) (hf : fits ty v = true) {n0 : Nat} (N : Fr n0 locs) (ga : n0 ≤ a) (hd : decode c.code pc = .ok (.putfield i, 3))
    (k : ∀ T' h', Stand p l e R s m args below meth c T' (locs ++ [⟨a, Jvm.RoadKit.slotOf Z O n d⟩]) cells slots → T'.heap = h' → Wr h h' a (Jvm.RoadKit.slotOf Z O n d) v → Fr n0 (locs ++ [⟨a, Jvm.RoadKit.slotOf Z O n d⟩]) → Fld Z h' a O n d v → Go p e below P (T'.setTop (mkF m (pc + 3) L st))) : Go p e below P (T.setTop (mkF m pc L (v :: .ref a :: st))) := by
  obtain ⟨T', h', X', e', W, q⟩ := putF X hx hZ hown w via eT F E Ly wi hty hn hf (g := mkF m pc L (v :: .ref a :: st)) rfl rfl hd
  exact Go.via q (k T' h' X' e' W (Fr.snoc X' N ga) (F.same W))
theorem putfieldN (X : Stand p l e R s m args below meth c T locs cells slots) (hx : p.tables.exec = Jvm.exec) (hZ : Z.Warmed39 s.vm) {own R0 O n d C : String} {i kk : Nat} {ty : FieldType} (hown : s.vm.findClass own = some m.cls) (w : (Cond.fieldLink own i R0 n d).before a0 Z = true) (via : Via Z R0 O n d)
    (eT : T.heap = h) {a : Addr} {v v' old : Value} (F : Fld Z h a O n d old) (E : Exa Z h a C) (Ly : (Cond.lays C O n d).before a0 Z = true ∨ ((Cond.laysFinal C O n d).before a0 Z = true ∧ own = O ∧ meth.name = "<init>")) (wi : (Cond.instantiable C kk).before a0 Z = true)
    (hty : parseFieldDescriptor d = some ty) (hn : narrow ty v = v') (hf : fits ty v' = true) {n0 : Nat} (N : Fr n0 locs) (ga : n0 ≤ a) (hd : decode c.code pc = .ok (.putfield i, 3))
    (k : ∀ T' h', Stand p l e R s m args below meth c T' (locs ++ [⟨a, Jvm.RoadKit.slotOf Z O n d⟩]) cells slots → T'.heap = h' → Wr h h' a (Jvm.RoadKit.slotOf Z O n d) v' → Fr n0 (locs ++ [⟨a, Jvm.RoadKit.slotOf Z O n d⟩]) → Fld Z h' a O n d v' → Go p e below P (T'.setTop (mkF m (pc + 3) L st))) : Go p e below P (T.setTop (mkF m pc L (v :: .ref a :: st))) := by
  obtain ⟨T', h', X', e', W, q⟩ := putFN X hx hZ hown w via eT F E Ly wi hty hn hf (g := mkF m pc L (v :: .ref a :: st)) rfl rfl hd
  exact Go.via q (k T' h' X' e' W (Fr.snoc X' N ga) (F.same W))
theorem newobj (X : Stand p l e R s m args below meth c T locs cells slots) (hx : p.tables.exec = Jvm.exec) (hZ : Z.Warmed39 s.vm) {own C : String} {i n : Nat} (hown : s.vm.findClass own = some m.cls) (w : (Cond.classLink own i C).before a0 Z = true) (wi : (Cond.instantiable C n).before a0 Z = true) (wz : (Cond.initialized C).before a0 Z = true) (eT : T.heap = h)
    (hd : decode c.code pc = .ok (.new i, 3)) (hc : cells + 1 ≤ R.cells) (hl : slots + n ≤ R.slots)
    (k : ∀ T' h' b, b = h.size → Stand p l e R s m args below meth c T' locs (cells + 1) (slots + n) → T'.heap = h' → Ext h h' → Exa Z h' b C → (∀ {O nm d : String} {ty : FieldType}, Laid Z a0 C O nm d → parseFieldDescriptor d = some ty → Fld Z h' b O nm d (defaultValue ty)) → Go p e below P (T'.setTop (mkF m (pc + 3) L (.ref b :: st)))) : Go p e below P (T.setTop (mkF m pc L st)) := by
  obtain ⟨T', h', X', e', E, A, D, -, q⟩ := newO X hx hZ hown w wi wz eT (g := mkF m pc L st) rfl hd hc hl
  exact Go.via q (k T' h' h.size rfl X' e' E A D)
theorem initObj (X : Stand p l e R s m args below meth c T locs cells slots) (hx : p.tables.exec = Jvm.exec) (hZ : Z.Warmed39 s.vm) {own : String} {i : Nat} (hown : s.vm.findClass own = some m.cls) (w1 : (Cond.methodLink own i Lib.objectInit).before a0 Z = true) (w2 : (Cond.instanceMethod Lib.objectInit).before a0 Z = true)
    (w3 : (Cond.code Lib.objectInit ⟨#[0xb1]⟩ 1 none).before a0 Z = true) (eT : T.heap = h) (hsize : L.size = c.maxLocals) {a : Addr} (hd : decode c.code pc = .ok (.invokespecial i, 3)) (hf : 1 ≤ R.frames) (W : Nat) (hW : (st.map fun v => v.category).sum ≤ W) (hl : W + 12 ≤ R.locals)
    (k : ∀ T', Stand p l e R s m args below meth c T' locs cells slots → T'.heap = h → Go p e below P (T'.setTop (mkF m (pc + 3) L st))) : Go p e below P (T.setTop (mkF m pc L (.ref a :: st))) := by
  obtain ⟨T', X', e', q⟩ := initO X hx hZ hown w1 w2 w3 eT (g := mkF m pc L (.ref a :: st)) rfl hsize rfl hd hf (W := W) (by show 2 * 0 + _ ≤ _; omega) hl
  exact Go.via q (k T' X' e')
/-! arrays -/
/-- the array at a holds just these values -/
def VArr (Z : State) (h : Heap) (a : Addr) (ty : FieldType) (vs : List Value) : Prop := ∃ c : Cell, Arr Z h a c ty ∧ c.slots = vs.toArray ∧ vs.length < 2 ^ 31
section VA
variable {h' : Heap} {a b : Addr} {ty : FieldType} {vs : List Value} {sl : Nat} {v : Value} {ws : List Addr}
theorem VArr.lt (F : VArr Z h a ty vs) : a < h.size := by obtain ⟨c, A, -⟩ := F; exact A.lt
theorem VArr.ext (F : VArr Z h a ty vs) (E : Ext h h') : VArr Z h' a ty vs := by obtain ⟨c, A, r⟩ := F; exact ⟨c, A.ext E, r⟩
theorem VArr.other (F : VArr Z h b ty vs) (W : Wr h h' a sl v) (q : b ≠ a) : VArr Z h' b ty vs := by obtain ⟨c, A, r⟩ := F; exact ⟨c, A.other W q, r⟩
theorem VArr.keep (F : VArr Z h a ty vs) (K : Keep h h' ws) (q : a ∉ ws) : VArr Z h' a ty vs := by obtain ⟨c, A, r⟩ := F; exact ⟨c, ⟨K.2.1 a c A.1 q, A.2⟩, r⟩
theorem VArr.same (F : VArr Z h a ty vs) (W : Wr h h' a sl v) : VArr Z h' a ty (vs.set sl v) := by
  obtain ⟨c, A, r1, r2⟩ := F
  refine ⟨c.setSlot sl v, A.same W, ?_, by simpa using r2⟩
  simp [Cell.setSlot, r1]
theorem neVE {C : String} {kk : Nat} (F : VArr Z h a ty vs) (E : Exa Z h b C) (wi : (Cond.instantiable C kk).before a0 Z = true) : a ≠ b := by
  obtain ⟨c, A, -⟩ := F
  exact (ne_arr E wi A).symm
end VA
theorem in_of {vs : List Value} {v : Value} {i : Nat} {j : Int32} {c : Cell} (hn : ¬ j < 0) (hi : j.toNatClampNeg = i) (hv : vs[i]? = some v) (r : c.slots = vs.toArray) : ¬ (j < 0 ∨ c.slots.size ≤ j.toNatClampNeg) ∧ c.slots[j.toNatClampNeg]? = some v := by
  have hlt : i < vs.length := by
    obtain ⟨q, -⟩ := List.getElem?_eq_some_iff.mp hv
    exact q
  refine ⟨fun q => ?_, ?_⟩
  · rcases q with q | q
    · exact hn q
    · rw [r, hi] at q; simp at q; omega
  · rw [hi, r]; simpa using hv
theorem in_of' {vs : List Value} {i : Nat} {j : Int32} {c : Cell} (hn : ¬ j < 0) (hi : j.toNatClampNeg = i) (hv : i < vs.length) (r : c.slots = vs.toArray) : ¬ (j < 0 ∨ c.slots.size ≤ j.toNatClampNeg) := by
  intro q
  rcases q with q | q
  · exact hn q
  · rw [r, hi] at q; simp at q; omega
theorem alen (X : Stand p l e R s m args below meth c T locs cells slots) (hx : p.tables.exec = Jvm.exec) (hZ : Z.Warmed39 s.vm) (eT : T.heap = h) {a : Addr} {ty : FieldType} {vs : List Value} (V : VArr Z h a ty vs) (n : Int32) (hn : vs.length.toInt32 = n) (hd : decode c.code pc = .ok (.arraylength, 1)) (k : Go p e below P (T.setTop (mkF m (pc + 1) L (.int n :: st)))) : Go p e below P (T.setTop (mkF m pc L (.ref a :: st))) := by
  obtain ⟨cl, A, r1, -⟩ := V
  have q : cl.slots.size.toInt32 = n := by rw [r1]; simpa using hn
  exact Go.via (fun t w => X.arraylength hx (cell := cl) (by rw [eT]; exact A.1) (State.isArrayOf_alike hZ.alike A.2.1) (g := mkF m pc L (.ref a :: st)) rfl rfl hd t (by rw [q]; exact w)) k
theorem iaload (X : Stand p l e R s m args below meth c T locs cells slots) (hx : p.tables.exec = Jvm.exec) (hZ : Z.Warmed39 s.vm) (eT : T.heap = h) {a : Addr} {vs : List Value} (V : VArr Z h a .int vs) {j : Int32} {v : Value} (i : Nat) (hn : ¬ j < 0) (hi : j.toNatClampNeg = i) (hv : vs[i]? = some v) (hd : decode c.code pc = .ok (.iaload, 1)) (k : Go p e below P (T.setTop (mkF m (pc + 1) L (v :: st)))) : Go p e below P (T.setTop (mkF m pc L (.int j :: .ref a :: st))) := by
  obtain ⟨cl, A, r1, -⟩ := V
  obtain ⟨q1, q2⟩ := in_of hn hi hv r1
  exact Go.via (fun t w => X.iaload hx (by rw [eT]; exact A.1) (State.isArrayOf_alike hZ.alike A.2.1) A.2.2 q1 q2 (g := mkF m pc L (.int j :: .ref a :: st)) rfl rfl hd t w) k
theorem laload (X : Stand p l e R s m args below meth c T locs cells slots) (hx : p.tables.exec = Jvm.exec) (hZ : Z.Warmed39 s.vm) (eT : T.heap = h) {a : Addr} {vs : List Value} (V : VArr Z h a .long vs) {j : Int32} {v : Value} (i : Nat) (hn : ¬ j < 0) (hi : j.toNatClampNeg = i) (hv : vs[i]? = some v) (hd : decode c.code pc = .ok (.laload, 1)) (k : Go p e below P (T.setTop (mkF m (pc + 1) L (v :: st)))) : Go p e below P (T.setTop (mkF m pc L (.int j :: .ref a :: st))) := by
  obtain ⟨cl, A, r1, -⟩ := V
  obtain ⟨q1, q2⟩ := in_of hn hi hv r1
  exact Go.via (fun t w => X.laload hx (by rw [eT]; exact A.1) (State.isArrayOf_alike hZ.alike A.2.1) A.2.2 q1 q2 (g := mkF m pc L (.int j :: .ref a :: st)) rfl rfl hd t w) k
theorem baload (X : Stand p l e R s m args below meth c T locs cells slots) (hx : p.tables.exec = Jvm.exec) (hZ : Z.Warmed39 s.vm) (eT : T.heap = h) {a : Addr} {vs : List Value} (V : VArr Z h a .byte vs) {j : Int32} {v : Value} (i : Nat) (hn : ¬ j < 0) (hi : j.toNatClampNeg = i) (hv : vs[i]? = some v) (hd : decode c.code pc = .ok (.baload, 1)) (k : Go p e below P (T.setTop (mkF m (pc + 1) L (v :: st)))) : Go p e below P (T.setTop (mkF m pc L (.int j :: .ref a :: st))) := by
  obtain ⟨cl, A, r1, -⟩ := V
  obtain ⟨q1, q2⟩ := in_of hn hi hv r1
  exact Go.via (fun t w => X.baloadBytes hx (by rw [eT]; exact A.1) (State.isArrayOf_alike hZ.alike A.2.1) A.2.2 q1 q2 (g := mkF m pc L (.int j :: .ref a :: st)) rfl rfl hd t w) k
theorem iastore (X : Stand p l e R s m args below meth c T locs cells slots) (hx : p.tables.exec = Jvm.exec) (hZ : Z.Warmed39 s.vm) (eT : T.heap = h) {a : Addr} {vs : List Value} (V : VArr Z h a .int vs) {j x : Int32} (i : Nat) (hn : ¬ j < 0) (hi : j.toNatClampNeg = i) (hv : i < vs.length) {n0 : Nat} (N : Fr n0 locs) (ga : n0 ≤ a) (hd : decode c.code pc = .ok (.iastore, 1))
    (k : ∀ T' h', Stand p l e R s m args below meth c T' (locs ++ [⟨a, i⟩]) cells slots → T'.heap = h' → Wr h h' a i (.int x) → Fr n0 (locs ++ [⟨a, i⟩]) → VArr Z h' a .int (vs.set i (.int x)) → Go p e below P (T'.setTop (mkF m (pc + 1) L st))) : Go p e below P (T.setTop (mkF m pc L (.int x :: .int j :: .ref a :: st))) := by
  have V0 := V
  obtain ⟨cl, A, r1, -⟩ := V
  obtain ⟨T', h', X', e', W, q⟩ := stI X hx hZ eT A (in_of' hn hi hv r1) (g := mkF m pc L (.int x :: .int j :: .ref a :: st)) rfl rfl hd
  rw [hi] at X' W
  exact Go.via q (k T' h' X' e' W (Fr.snoc X' N ga) (V0.same W))
theorem lastore (X : Stand p l e R s m args below meth c T locs cells slots) (hx : p.tables.exec = Jvm.exec) (hZ : Z.Warmed39 s.vm) (eT : T.heap = h) {a : Addr} {vs : List Value} (V : VArr Z h a .long vs) {j : Int32} {x : Int64} (i : Nat) (hn : ¬ j < 0) (hi : j.toNatClampNeg = i) (hv : i < vs.length) {n0 : Nat} (N : Fr n0 locs) (ga : n0 ≤ a) (hd : decode c.code pc = .ok (.lastore, 1))
    (k : ∀ T' h', Stand p l e R s m args below meth c T' (locs ++ [⟨a, i⟩]) cells slots → T'.heap = h' → Wr h h' a i (.long x) → Fr n0 (locs ++ [⟨a, i⟩]) → VArr Z h' a .long (vs.set i (.long x)) → Go p e below P (T'.setTop (mkF m (pc + 1) L st))) : Go p e below P (T.setTop (mkF m pc L (.long x :: .int j :: .ref a :: st))) := by
  have V0 := V
  obtain ⟨cl, A, r1, -⟩ := V
  obtain ⟨T', h', X', e', W, q⟩ := stJ X hx hZ eT A (in_of' hn hi hv r1) (g := mkF m pc L (.long x :: .int j :: .ref a :: st)) rfl rfl hd
  rw [hi] at X' W
  exact Go.via q (k T' h' X' e' W (Fr.snoc X' N ga) (V0.same W))
theorem bastore (X : Stand p l e R s m args below meth c T locs cells slots) (hx : p.tables.exec = Jvm.exec) (hZ : Z.Warmed39 s.vm) (eT : T.heap = h) {a : Addr} {vs : List Value} (V : VArr Z h a .byte vs) {j x : Int32} (i : Nat) (hn : ¬ j < 0) (hi : j.toNatClampNeg = i) (hv : i < vs.length) {n0 : Nat} (N : Fr n0 locs) (ga : n0 ≤ a) (hd : decode c.code pc = .ok (.bastore, 1))
    (k : ∀ T' h', Stand p l e R s m args below meth c T' (locs ++ [⟨a, i⟩]) cells slots → T'.heap = h' → Wr h h' a i (.int x.toInt8.toInt32) → Fr n0 (locs ++ [⟨a, i⟩]) → VArr Z h' a .byte (vs.set i (.int x.toInt8.toInt32)) → Go p e below P (T'.setTop (mkF m (pc + 1) L st))) : Go p e below P (T.setTop (mkF m pc L (.int x :: .int j :: .ref a :: st))) := by
  have V0 := V
  obtain ⟨cl, A, r1, -⟩ := V
  obtain ⟨T', h', X', e', W, q⟩ := stB X hx hZ eT A (in_of' hn hi hv r1) (g := mkF m pc L (.int x :: .int j :: .ref a :: st)) rfl rfl hd
  rw [hi] at X' W
  exact Go.via q (k T' h' X' e' W (Fr.snoc X' N ga) (V0.same W))
theorem newarr (X : Stand p l e R s m args below meth c T locs cells slots) (hx : p.tables.exec = Jvm.exec) (hZ : Z.Warmed39 s.vm) {aty : ArrayType} (w : (Cond.arrayClass (newarray.typeOf aty)).before a0 Z = true) (eT : T.heap = h) (hd : decode c.code pc = .ok (.newarray aty, 2)) {n : Int32} (hn : ¬ n < 0) (i cap : Nat) (hi : n.toNatClampNeg = i) (hcap : i ≤ cap) (hb : cap * 8 ≤ 536870912) (hc : cells + 1 ≤ R.cells) (hl : slots + cap ≤ R.slots)
    (k : ∀ T' h' b, b = h.size → Stand p l e R s m args below meth c T' locs (cells + 1) (slots + cap) → T'.heap = h' → Ext h h' → VArr Z h' b (newarray.typeOf aty) (List.replicate i (defaultValue (newarray.typeOf aty))) → Go p e below P (T'.setTop (mkF m (pc + 2) L (.ref b :: st)))) : Go p e below P (T.setTop (mkF m pc L (.int n :: st))) := by
  obtain ⟨T', h', cA, X', e', E, A, q⟩ := newP X hx hZ w eT (g := mkF m pc L (.int n :: st)) rfl hd rfl hn (cap := cap) (by rw [hi]; exact hcap) hb hc hl
  refine Go.via q (k T' h' h.size rfl X' e' E ⟨_, A, ?_, ?_⟩)
  · simp [newA, hi]
  · simp; omega
/-! calls -/
theorem callStatic (X : Stand p l e R s m args below meth c T locs cells slots) (hx : p.tables.exec = Jvm.exec) (hZ : Z.Warmed39 s.vm) {own : String} {i : Nat} {y : MethodName} {bytes : ByteArray} {maxL : Nat} {ret : Option FieldType} {rm : Room} {Q : Option Value → Heap → List Loc → Prop}
    (hown : s.vm.findClass own = some m.cls) (w1 : (Cond.methodLink own i y).before a0 Z = true) (w2 : (Cond.static y).before a0 Z = true) (w3 : (Cond.initialized y.cls).before a0 Z = true) (w4 : (Cond.code y bytes maxL ret).before a0 Z = true) (hy : y.cls ≠ "java/lang/invoke/MethodHandle" ∧ y.cls ≠ "java/lang/invoke/VarHandle")
    (W : Nat) (argsL rest : List Value) (hM : Ct l y bytes maxL ret [] rm Z argsL.toArray h Q) (hf : rm.frames + 1 ≤ R.frames) (hl : W + (maxL + 11) + rm.locals ≤ R.locals) (eT : T.heap = h) (hsize : L.size = c.maxLocals) {ps : List FieldType} {rt : Option FieldType} (pd : parseMethodDescriptor y.desc = some ⟨ps, rt⟩) (hlen : argsL.length = ps.length) (hst : st = argsL.reverse ++ rest) (hW : (rest.map fun v => v.category).sum ≤ W)
    (hd : decode c.code pc = .ok (.invokestatic i, 3)) (hc : cells + rm.cells ≤ R.cells) (hn : slots + rm.slots ≤ R.slots)
    (k : ∀ T' L' v, Stand p l e R s m args below meth c T' (locs ++ L') (cells + rm.cells) (slots + rm.slots) → Q v T'.heap L' → Go p e below P (T'.setTop (mkF m (pc + 3) L (v.toList ++ rest)))) : Go p e below P (T.setTop (mkF m pc L st)) := by
  obtain ⟨v, _, ⟨T', L', k', n'⟩, -, X', ⟨Lc, hQ, l1, y1, z1⟩, q⟩ := Jvm.LawKit.callS X hx (y := y) hown (mvT hZ w1) (mvT hZ w2) (mvT hZ w3) (mvT hZ w4) hy (backOf (W := W) hM hZ w4 w3 hf hl) (g := mkF m pc L st) rfl hsize (argsL := argsL) (rest := rest) (lenOf pd hlen) hst (by show 2 * 0 + _ ≤ _; omega) hd (fun _ _ => ⟨rfl, eT, hc, hn⟩)
  dsimp only [Pt.U, Pt.locs, Pt.cells, Pt.slots] at X' l1 y1 z1 q hQ
  subst l1 y1 z1
  exact Go.via q (k T' Lc v X' hQ)
theorem callSpecial (X : Stand p l e R s m args below meth c T locs cells slots) (hx : p.tables.exec = Jvm.exec) (hZ : Z.Warmed39 s.vm) {own : String} {i : Nat} {y : MethodName} {bytes : ByteArray} {maxL : Nat} {rm : Room} {Q : Option Value → Heap → List Loc → Prop} (hy1 : y.name = "<init>")
    (hown : s.vm.findClass own = some m.cls) (w1 : (Cond.methodLink own i y).before a0 Z = true) (w2 : (Cond.instanceMethod y).before a0 Z = true) (w3 : (Cond.initialized y.cls).before a0 Z = true) (w4 : (Cond.code y bytes maxL none).before a0 Z = true) (hy : y.cls ≠ "java/lang/invoke/MethodHandle" ∧ y.cls ≠ "java/lang/invoke/VarHandle")
    (W : Nat) (a : Addr) (argsL rest : List Value) (hM : Ct l y bytes maxL none [] rm Z (.ref a :: argsL).toArray h Q) (hf : rm.frames + 1 ≤ R.frames) (hl : W + (maxL + 11) + rm.locals ≤ R.locals) (eT : T.heap = h) (hsize : L.size = c.maxLocals) {ps : List FieldType} {rt : Option FieldType} (pd : parseMethodDescriptor y.desc = some ⟨ps, rt⟩) (hlen : argsL.length = ps.length) (hst : st = argsL.reverse ++ .ref a :: rest) (hW : (rest.map fun v => v.category).sum ≤ W)
    (hd : decode c.code pc = .ok (.invokespecial i, 3)) (hc : cells + rm.cells ≤ R.cells) (hn : slots + rm.slots ≤ R.slots)
    (k : ∀ T' L' v, Stand p l e R s m args below meth c T' (locs ++ L') (cells + rm.cells) (slots + rm.slots) → Q v T'.heap L' → Go p e below P (T'.setTop (mkF m (pc + 3) L (v.toList ++ rest)))) : Go p e below P (T.setTop (mkF m pc L st)) := by
  obtain ⟨v, _, ⟨T', L', k', n'⟩, -, X', ⟨Lc, hQ, l1, y1, z1⟩, q⟩ := X.specialBack hx (y := y) hy1 hown (mvT hZ w1) (mvT hZ w2) (mvT hZ w4) hy (backOf (W := W) hM hZ w4 w3 hf hl) (g := mkF m pc L st) rfl hsize (Steps.refl _) (a := a) (argsL := argsL) (rest := rest) (lenOf pd hlen) hst (by show 2 * 0 + _ ≤ _; omega) hd (fun _ _ => ⟨rfl, eT, hc, hn⟩)
  dsimp only [Pt.U, Pt.locs, Pt.cells, Pt.slots] at X' l1 y1 z1 q hQ
  subst l1 y1 z1
  exact Go.tr q (k T' Lc v X' hQ)
theorem callVirtual (X : Stand p l e R s m args below meth c T locs cells slots) (hx : p.tables.exec = Jvm.exec) (hZ : Z.Warmed39 s.vm) {own C : String} {i : Nat} {y z : MethodName} {bytes : ByteArray} {maxL : Nat} {ret : Option FieldType} {rm : Room} {Q : Option Value → Heap → List Loc → Prop}
    (hown : s.vm.findClass own = some m.cls) (w1 : (Cond.methodLink own i y).before a0 Z = true) (w2 : (Cond.declares y).before a0 Z = true) (w3 : (Cond.selects C y z).before a0 Z = true) (w5 : (Cond.instanceMethod z).before a0 Z = true) (w6 : (Cond.initialized z.cls).before a0 Z = true) (w4 : (Cond.code z bytes maxL ret).before a0 Z = true) (w7 : (Cond.selects y.cls y y).before a0 Z = true) (hy : y.cls ≠ "java/lang/invoke/MethodHandle" ∧ y.cls ≠ "java/lang/invoke/VarHandle")
    (W : Nat) (a : Addr) (argsL rest : List Value) (E : Exa Z h a C) (hM : Ct l z bytes maxL ret [] rm Z (.ref a :: argsL).toArray h Q) (hf : rm.frames + 1 ≤ R.frames) (hl : W + (maxL + 11) + rm.locals ≤ R.locals) (eT : T.heap = h) (hsize : L.size = c.maxLocals) {ps : List FieldType} {rt : Option FieldType} (pd : parseMethodDescriptor y.desc = some ⟨ps, rt⟩) (hlen : argsL.length = ps.length) (hst : st = argsL.reverse ++ .ref a :: rest) (hW : (rest.map fun v => v.category).sum ≤ W)
    (hd : decode c.code pc = .ok (.invokevirtual i, 3)) (hc : cells + rm.cells ≤ R.cells) (hn : slots + rm.slots ≤ R.slots)
    (k : ∀ T' L' v, Stand p l e R s m args below meth c T' (locs ++ L') (cells + rm.cells) (slots + rm.slots) → Q v T'.heap L' → Go p e below P (T'.setTop (mkF m (pc + 3) L (v.toList ++ rest)))) : Go p e below P (T.setTop (mkF m pc L st)) := by
  obtain ⟨cq, kq, qa, qb, qc⟩ := isOf hZ eT E
  obtain ⟨v, _, ⟨T', L', k', n'⟩, -, X', ⟨Lc, hQ, l1, y1, z1⟩, q⟩ := X.virtualBack hx (y := y) (z := z) hown (mvT hZ w1) (mvT hZ w2) (notFace_of_selects (args := #[]) (mvT hZ w7)) (mvT hZ w3) (mvT hZ w5) hy (backOf (W := W) hM hZ w4 w6 hf hl) qa qc (g := mkF m pc L st) rfl hsize (Steps.refl _) (argsL := argsL) (rest := rest) (lenOf pd hlen) hst (by show 2 * 0 + _ ≤ _; omega) hd (fun _ _ => ⟨rfl, eT, hc, hn⟩)
  dsimp only [Pt.U, Pt.locs, Pt.cells, Pt.slots] at X' l1 y1 z1 q hQ
  subst l1 y1 z1
  exact Go.tr q (k T' Lc v X' hQ)
theorem callPrivate (X : Stand p l e R s m args below meth c T locs cells slots) (hx : p.tables.exec = Jvm.exec) (hZ : Z.Warmed39 s.vm) {own C : String} {i kk : Nat} {y : MethodName} {bytes : ByteArray} {maxL : Nat} {ret : Option FieldType} {rm : Room} {Q : Option Value → Heap → List Loc → Prop}
    (hown : s.vm.findClass own = some m.cls) (w1 : (Cond.methodLink own i y).before a0 Z = true) (w2 : (Cond.instanceMethod y).before a0 Z = true) (w3 : (Cond.privateMethod y).before a0 Z = true) (w5 : (Cond.instantiable y.cls kk).before a0 Z = true) (w6 : (Cond.initialized y.cls).before a0 Z = true) (w4 : (Cond.code y bytes maxL ret).before a0 Z = true) (hy : y.cls ≠ "java/lang/invoke/MethodHandle" ∧ y.cls ≠ "java/lang/invoke/VarHandle")
    (W : Nat) (a : Addr) (argsL rest : List Value) (E : Exa Z h a C) (hM : Ct l y bytes maxL ret [] rm Z (.ref a :: argsL).toArray h Q) (hf : rm.frames + 1 ≤ R.frames) (hl : W + (maxL + 11) + rm.locals ≤ R.locals) (eT : T.heap = h) (hsize : L.size = c.maxLocals) {ps : List FieldType} {rt : Option FieldType} (pd : parseMethodDescriptor y.desc = some ⟨ps, rt⟩) (hlen : argsL.length = ps.length) (hst : st = argsL.reverse ++ .ref a :: rest) (hW : (rest.map fun v => v.category).sum ≤ W)
    (hd : decode c.code pc = .ok (.invokevirtual i, 3)) (hc : cells + rm.cells ≤ R.cells) (hn : slots + rm.slots ≤ R.slots)
    (k : ∀ T' L' v, Stand p l e R s m args below meth c T' (locs ++ L') (cells + rm.cells) (slots + rm.slots) → Q v T'.heap L' → Go p e below P (T'.setTop (mkF m (pc + 3) L (v.toList ++ rest)))) : Go p e below P (T.setTop (mkF m pc L st)) := by
  have hP : s.PrivateAt y := Cond.privateMethod_at (args := #[]) (mvP hZ w3)
  have hsel : (Cond.selects y.cls y y).before args s = true := by
    have q : (Cond.instantiable y.cls kk).before args s = true := mvT hZ w5
    obtain ⟨c2, k2, i1, i2, -, i4, -⟩ := Cond.instantiable_spec q
    rw [Bool.or_eq_false_iff] at i4
    exact selects_self_of_private i1 i2 i4.1 hP (mvT hZ w2) hy
  obtain ⟨ce, he1, he2⟩ := E.cell
  obtain ⟨v, _, ⟨T', L', k', n'⟩, -, X', ⟨Lc, hQ, l1, y1, z1⟩, q⟩ := X.privateBack hx (y := y) hown (mvT hZ w1) (mvT hZ w2) hsel hP (mvT hZ w4) hy (backOf (W := W) hM hZ w4 w6 hf hl) (g := mkF m pc L st) rfl hsize (Steps.refl _) (a := a) (cell := ce) (by rw [eT]; exact he1) he2 (argsL := argsL) (rest := rest) (lenOf pd hlen) hst (by show 2 * 0 + _ ≤ _; omega) hd (fun _ _ => ⟨rfl, eT, hc, hn⟩)
  dsimp only [Pt.U, Pt.locs, Pt.cells, Pt.slots] at X' l1 y1 z1 q hQ
  subst l1 y1 z1
  exact Go.tr q (k T' Lc v X' hQ)
theorem getstatic (X : Stand p l e R s m args below meth c T locs cells slots) (hx : p.tables.exec = Jvm.exec) (hZ : Z.Warmed39 s.vm) {own R0 O n d : String} {i : Nat} (hown : s.vm.findClass own = some m.cls) (w : (Cond.fieldLink own i R0 n d).before a0 Z = true) (via : Via Z R0 O n d)
    (eT : T.heap = h) {v : Value} (F : Sta Z h O n d v) (hd : decode c.code pc = .ok (.getstatic i, 3)) (k : ∀ T', Stand p l e R s m args below meth c T' locs cells slots → T'.heap = h → Go p e below P (T'.setTop (mkF m (pc + 3) L (v :: st)))) : Go p e below P (T.setTop (mkF m pc L st)) := by
  obtain ⟨T', X', e', q⟩ := getS X hx hZ (host := "") hown w via eT F (g := mkF m pc L st) rfl hd
  exact Go.via q (k T' X' e')
theorem ldcFloat (X : Stand p l e R s m args below meth c T locs cells slots) (hx : p.tables.exec = Jvm.exec) (hZ : Z.Warmed39 s.vm) {own : String} {i : Nat} {b : UInt32} (hown : s.vm.findClass own = some m.cls) (w : (Cond.constantFloat own i b).before a0 Z = true) (hd : decode c.code pc = .ok (.ldc i, 2)) (k : Go p e below P (T.setTop (mkF m (pc + 2) L (.float b :: st)))) : Go p e below P (T.setTop (mkF m pc L st)) := Go.via (fun t q => X.ldcFloatC hx hown (mvT hZ w) (g := mkF m pc L st) rfl hd t q) k
theorem staKeep {O n d C : String} {v : Value} {h' : Heap} {a : Addr} (F : Sta Z h O n d v) (K : Keep h h' [a]) (E : Exa Z h a C) : Sta Z h' O n d v := by
  obtain ⟨cf, i, k, f, st, cell, h1, h2, h3, h4, h5, h6, h7⟩ := F
  obtain ⟨c2, k2, e1, -, -, e4, -⟩ := E
  have ne : st ∉ [a] := fun q => by
    cases List.mem_singleton.mp q
    cases h5.symm.trans e1
    rw [h6] at e4; cases e4
  exact ⟨cf, i, k, f, st, cell, h1, h2, h3, h4, K.2.1 _ _ h5 ne, h6, h7⟩
end Walk
end Jvm.Own
namespace Jvm.Pilot.@@N@@
open Jvm Jvm.ClassFile Sem Op Lib Jvm.Free Jvm.Stand Jvm.LawKit Jvm.RoadKit Bundle Jvm.Pilot.@@N@@.Jvm.D
theorem Wd {a0 : Array Value} {Z : State} (hw : ∀ d ∈ tables_1, d.before a0 Z = true) (i : Nat) {d : Jvm.Cond} (h : tables_1[i]? = some d) : d.before a0 Z = true := hw _ (List.mem_of_getElem? h)

theorem own_mod3 (o : Int32) {x : Int32} (e : o &&& (3 : Int32) = x) : x = 0 ∨ x = 1 ∨ x = 2 ∨ x = 3 := by
  have h := c_and o 3 (by decide)
  have h3 : (3 : Int32).toInt = 3 := by decide
  rw [e] at h
  have q : x.toInt = 0 ∨ x.toInt = 1 ∨ x.toInt = 2 ∨ x.toInt = 3 := by omega
  rcases q with q | q | q | q
  · exact Or.inl (Int32.toInt_inj.mp q)
  · exact Or.inr (Or.inl (Int32.toInt_inj.mp q))
  · exact Or.inr (Or.inr (Or.inl (Int32.toInt_inj.mp q)))
  · exact Or.inr (Or.inr (Or.inr (Int32.toInt_inj.mp q)))
theorem own_and63 (q : Int32) : q.toInt64 &&& 63 = (q &&& 0x3f).toInt64 := by rw [Int32.toInt64_and]; rfl
theorem own_ushrL0 (x : Int64) (q : Int32) : XT.ushrL x q = (x.toUInt64 >>> (q &&& 0x3f).toInt64.toUInt64).toInt64 := by
  rw [← own_and63]; rfl
theorem own_ushrL (x : Int64) (q : Int32) (k : Nat) (hk : q.toBitVec.toNat % 64 = k) (h0 : 0 < k) : (XT.ushrL x q).toInt = (x.toInt % 18446744073709551616) / (2 ^ k : Nat) := by
  rw [own_ushrL0]; exact c_lushr x q k hk h0
theorem own_shl (x : Int64) (q : Int32) (k : Nat) (hk : q.toBitVec.toNat % 64 = k) : ((x <<< (q.toInt64 &&& 63)).toInt - x.toInt * (2 ^ k : Nat)) % 18446744073709551616 = 0 := by
  rw [own_and63]; exact c_lshl x q k hk

theorem own_by (x : Int64) : (((x.toInt32.toInt8.toInt32).toInt8.toInt32) &&& (255 : Int32)).toInt64.toInt = x.toInt % 256 := by
  have a := c_l2i x
  have b := c_i2b x.toInt32
  have c := c_i2b x.toInt32.toInt8.toInt32
  have d := c_mask (x.toInt32.toInt8.toInt32).toInt8.toInt32 (255 : Int32) 8 (by decide) (by decide)
  rw [c_i2l, d]
  omega
theorem own_or (acc b : Int64) (h : 0 ≤ b.toInt ∧ b.toInt < 256) : (((acc <<< (Int32.toInt64 (8 : Int32) &&& 63)) ||| b).toInt - (acc.toInt * 256 + b.toInt)) % 18446744073709551616 = 0 := by
  have a := own_shl acc (8 : Int32) 8 (by decide)
  have o := c_orL (acc <<< (Int32.toInt64 (8 : Int32) &&& 63)) b 8 (by decide) 256 (by decide) (by omega) h.1 h.2
  omega

theorem own_st1 (W a a' b : Int) (h0 : 0 ≤ W) (h1 : W < 18446744073709551616) (hs : (a - W / 18446744073709551616) % 18446744073709551616 = 0) (hb : b = W / 72057594037927936 % 256) (ho : (a' - (a * 256 + b)) % 18446744073709551616 = 0) : (a' - W / 72057594037927936) % 18446744073709551616 = 0 := by omega
theorem own_st2 (W a a' b : Int) (h0 : 0 ≤ W) (h1 : W < 18446744073709551616) (hs : (a - W / 72057594037927936) % 18446744073709551616 = 0) (hb : b = W / 281474976710656 % 256) (ho : (a' - (a * 256 + b)) % 18446744073709551616 = 0) : (a' - W / 281474976710656) % 18446744073709551616 = 0 := by omega
theorem own_st3 (W a a' b : Int) (h0 : 0 ≤ W) (h1 : W < 18446744073709551616) (hs : (a - W / 281474976710656) % 18446744073709551616 = 0) (hb : b = W / 1099511627776 % 256) (ho : (a' - (a * 256 + b)) % 18446744073709551616 = 0) : (a' - W / 1099511627776) % 18446744073709551616 = 0 := by omega
theorem own_st4 (W a a' b : Int) (h0 : 0 ≤ W) (h1 : W < 18446744073709551616) (hs : (a - W / 1099511627776) % 18446744073709551616 = 0) (hb : b = W / 4294967296 % 256) (ho : (a' - (a * 256 + b)) % 18446744073709551616 = 0) : (a' - W / 4294967296) % 18446744073709551616 = 0 := by omega
theorem own_st5 (W a a' b : Int) (h0 : 0 ≤ W) (h1 : W < 18446744073709551616) (hs : (a - W / 4294967296) % 18446744073709551616 = 0) (hb : b = W / 16777216 % 256) (ho : (a' - (a * 256 + b)) % 18446744073709551616 = 0) : (a' - W / 16777216) % 18446744073709551616 = 0 := by omega
theorem own_st6 (W a a' b : Int) (h0 : 0 ≤ W) (h1 : W < 18446744073709551616) (hs : (a - W / 16777216) % 18446744073709551616 = 0) (hb : b = W / 65536 % 256) (ho : (a' - (a * 256 + b)) % 18446744073709551616 = 0) : (a' - W / 65536) % 18446744073709551616 = 0 := by omega
theorem own_st7 (W a a' b : Int) (h0 : 0 ≤ W) (h1 : W < 18446744073709551616) (hs : (a - W / 65536) % 18446744073709551616 = 0) (hb : b = W / 256 % 256) (ho : (a' - (a * 256 + b)) % 18446744073709551616 = 0) : (a' - W / 256) % 18446744073709551616 = 0 := by omega
theorem own_st8 (W a a' b : Int) (h0 : 0 ≤ W) (h1 : W < 18446744073709551616) (hs : (a - W / 256) % 18446744073709551616 = 0) (hb : b = W / 1 % 256) (ho : (a' - (a * 256 + b)) % 18446744073709551616 = 0) : (a' - W / 1) % 18446744073709551616 = 0 := by omega
theorem own_byr (x : Int64) : 0 ≤ (((x.toInt32.toInt8.toInt32).toInt8.toInt32) &&& (255 : Int32)).toInt64.toInt ∧ (((x.toInt32.toInt8.toInt32).toInt8.toInt32) &&& (255 : Int32)).toInt64.toInt < 256 := by
  rw [own_by]; omega
theorem own_tod (v : Int64) : (((((((((((((((((0 : Int64) <<< (Int32.toInt64 (8 : Int32) &&& 63)) ||| (((((XT.ushrL v (56 : Int32)).toInt32).toInt8.toInt32).toInt8.toInt32) &&& (255 : Int32)).toInt64) <<< (Int32.toInt64 (8 : Int32) &&& 63)) ||| (((((XT.ushrL v (48 : Int32)).toInt32).toInt8.toInt32).toInt8.toInt32) &&& (255 : Int32)).toInt64) <<< (Int32.toInt64 (8 : Int32) &&& 63)) ||| (((((XT.ushrL v (40 : Int32)).toInt32).toInt8.toInt32).toInt8.toInt32) &&& (255 : Int32)).toInt64) <<< (Int32.toInt64 (8 : Int32) &&& 63)) ||| (((((XT.ushrL v (32 : Int32)).toInt32).toInt8.toInt32).toInt8.toInt32) &&& (255 : Int32)).toInt64) <<< (Int32.toInt64 (8 : Int32) &&& 63)) ||| (((((XT.ushrL v (24 : Int32)).toInt32).toInt8.toInt32).toInt8.toInt32) &&& (255 : Int32)).toInt64) <<< (Int32.toInt64 (8 : Int32) &&& 63)) ||| (((((XT.ushrL v (16 : Int32)).toInt32).toInt8.toInt32).toInt8.toInt32) &&& (255 : Int32)).toInt64) <<< (Int32.toInt64 (8 : Int32) &&& 63)) ||| (((((XT.ushrL v (8 : Int32)).toInt32).toInt8.toInt32).toInt8.toInt32) &&& (255 : Int32)).toInt64) <<< (Int32.toInt64 (8 : Int32) &&& 63)) ||| (v.toInt32.toInt8.toInt32.toInt8.toInt32 &&& (255 : Int32)).toInt64) = v := by
  have r := rng64 v
  have w0 : 0 ≤ v.toInt % 18446744073709551616 := by omega
  have w1 : v.toInt % 18446744073709551616 < 18446744073709551616 := by omega
  have s0 : ((0 : Int64).toInt - (v.toInt % 18446744073709551616) / 18446744073709551616) % 18446744073709551616 = 0 := by
    have z0 : (0 : Int64).toInt = 0 := by decide
    omega
  have c1 := own_byr (XT.ushrL v (56 : Int32))
  have b1 : (((((XT.ushrL v (56 : Int32)).toInt32).toInt8.toInt32).toInt8.toInt32) &&& (255 : Int32)).toInt64.toInt = (v.toInt % 18446744073709551616) / 72057594037927936 % 256 := by
    have q := own_ushrL v (56 : Int32) 56 (by decide) (by decide)
    rw [own_by, q]; rfl
  generalize (((((XT.ushrL v (56 : Int32)).toInt32).toInt8.toInt32).toInt8.toInt32) &&& (255 : Int32)).toInt64 = y1 at c1 b1 ⊢
  have o1 := own_or (0 : Int64) y1 c1
  generalize (((0 : Int64) <<< (Int32.toInt64 (8 : Int32) &&& 63)) ||| y1) = a1 at o1 ⊢
  have s1 := own_st1 _ _ _ _ w0 w1 s0 b1 o1
  clear s0 o1 b1 c1
  have c2 := own_byr (XT.ushrL v (48 : Int32))
  have b2 : (((((XT.ushrL v (48 : Int32)).toInt32).toInt8.toInt32).toInt8.toInt32) &&& (255 : Int32)).toInt64.toInt = (v.toInt % 18446744073709551616) / 281474976710656 % 256 := by
    have q := own_ushrL v (48 : Int32) 48 (by decide) (by decide)
    rw [own_by, q]; rfl
  generalize (((((XT.ushrL v (48 : Int32)).toInt32).toInt8.toInt32).toInt8.toInt32) &&& (255 : Int32)).toInt64 = y2 at c2 b2 ⊢
  have o2 := own_or a1 y2 c2
  generalize ((a1 <<< (Int32.toInt64 (8 : Int32) &&& 63)) ||| y2) = a2 at o2 ⊢
  have s2 := own_st2 _ _ _ _ w0 w1 s1 b2 o2
  clear s1 o2 b2 c2
  have c3 := own_byr (XT.ushrL v (40 : Int32))
  have b3 : (((((XT.ushrL v (40 : Int32)).toInt32).toInt8.toInt32).toInt8.toInt32) &&& (255 : Int32)).toInt64.toInt = (v.toInt % 18446744073709551616) / 1099511627776 % 256 := by
    have q := own_ushrL v (40 : Int32) 40 (by decide) (by decide)
    rw [own_by, q]; rfl
  generalize (((((XT.ushrL v (40 : Int32)).toInt32).toInt8.toInt32).toInt8.toInt32) &&& (255 : Int32)).toInt64 = y3 at c3 b3 ⊢
  have o3 := own_or a2 y3 c3
  generalize ((a2 <<< (Int32.toInt64 (8 : Int32) &&& 63)) ||| y3) = a3 at o3 ⊢
  have s3 := own_st3 _ _ _ _ w0 w1 s2 b3 o3
  clear s2 o3 b3 c3
  have c4 := own_byr (XT.ushrL v (32 : Int32))
  have b4 : (((((XT.ushrL v (32 : Int32)).toInt32).toInt8.toInt32).toInt8.toInt32) &&& (255 : Int32)).toInt64.toInt = (v.toInt % 18446744073709551616) / 4294967296 % 256 := by
    have q := own_ushrL v (32 : Int32) 32 (by decide) (by decide)
    rw [own_by, q]; rfl
  generalize (((((XT.ushrL v (32 : Int32)).toInt32).toInt8.toInt32).toInt8.toInt32) &&& (255 : Int32)).toInt64 = y4 at c4 b4 ⊢
  have o4 := own_or a3 y4 c4
  generalize ((a3 <<< (Int32.toInt64 (8 : Int32) &&& 63)) ||| y4) = a4 at o4 ⊢
  have s4 := own_st4 _ _ _ _ w0 w1 s3 b4 o4
  clear s3 o4 b4 c4
  have c5 := own_byr (XT.ushrL v (24 : Int32))
  have b5 : (((((XT.ushrL v (24 : Int32)).toInt32).toInt8.toInt32).toInt8.toInt32) &&& (255 : Int32)).toInt64.toInt = (v.toInt % 18446744073709551616) / 16777216 % 256 := by
    have q := own_ushrL v (24 : Int32) 24 (by decide) (by decide)
    rw [own_by, q]; rfl
  generalize (((((XT.ushrL v (24 : Int32)).toInt32).toInt8.toInt32).toInt8.toInt32) &&& (255 : Int32)).toInt64 = y5 at c5 b5 ⊢
  have o5 := own_or a4 y5 c5
  generalize ((a4 <<< (Int32.toInt64 (8 : Int32) &&& 63)) ||| y5) = a5 at o5 ⊢
  have s5 := own_st5 _ _ _ _ w0 w1 s4 b5 o5
  clear s4 o5 b5 c5
  have c6 := own_byr (XT.ushrL v (16 : Int32))
  have b6 : (((((XT.ushrL v (16 : Int32)).toInt32).toInt8.toInt32).toInt8.toInt32) &&& (255 : Int32)).toInt64.toInt = (v.toInt % 18446744073709551616) / 65536 % 256 := by
    have q := own_ushrL v (16 : Int32) 16 (by decide) (by decide)
    rw [own_by, q]; rfl
  generalize (((((XT.ushrL v (16 : Int32)).toInt32).toInt8.toInt32).toInt8.toInt32) &&& (255 : Int32)).toInt64 = y6 at c6 b6 ⊢
  have o6 := own_or a5 y6 c6
  generalize ((a5 <<< (Int32.toInt64 (8 : Int32) &&& 63)) ||| y6) = a6 at o6 ⊢
  have s6 := own_st6 _ _ _ _ w0 w1 s5 b6 o6
  clear s5 o6 b6 c6
  have c7 := own_byr (XT.ushrL v (8 : Int32))
  have b7 : (((((XT.ushrL v (8 : Int32)).toInt32).toInt8.toInt32).toInt8.toInt32) &&& (255 : Int32)).toInt64.toInt = (v.toInt % 18446744073709551616) / 256 % 256 := by
    have q := own_ushrL v (8 : Int32) 8 (by decide) (by decide)
    rw [own_by, q]; rfl
  generalize (((((XT.ushrL v (8 : Int32)).toInt32).toInt8.toInt32).toInt8.toInt32) &&& (255 : Int32)).toInt64 = y7 at c7 b7 ⊢
  have o7 := own_or a6 y7 c7
  generalize ((a6 <<< (Int32.toInt64 (8 : Int32) &&& 63)) ||| y7) = a7 at o7 ⊢
  have s7 := own_st7 _ _ _ _ w0 w1 s6 b7 o7
  clear s6 o7 b7 c7
  have c8 := own_byr v
  have b8 : (((v.toInt32.toInt8.toInt32).toInt8.toInt32) &&& (255 : Int32)).toInt64.toInt = (v.toInt % 18446744073709551616) / 1 % 256 := by
    rw [own_by]; omega
  generalize ((((v.toInt32).toInt8.toInt32).toInt8.toInt32) &&& (255 : Int32)).toInt64 = y8 at c8 b8 ⊢
  have o8 := own_or a7 y8 c8
  generalize ((a7 <<< (Int32.toInt64 (8 : Int32) &&& 63)) ||| y8) = a8 at o8 ⊢
  have s8 := own_st8 _ _ _ _ w0 w1 s7 b8 o8
  clear s7 o8 b8 c8
  have q := rng64 a8
  apply Int64.toInt_inj.mp
  clear w0 w1
  omega
theorem own_nan (v : Int64) : ((((XT.ushrL v (12 : Int32)) * (1000 : Int64)) + (((v &&& (4095 : Int64)) * (1000 : Int64)) / (4096 : Int64))) - (2208988800000000000 : Int64)) = ((((XT.ushrL v (9 : Int32)) * (125 : Int64)) + (((v &&& (511 : Int64)) * (125 : Int64)) / (512 : Int64))) - (2208988800000000000 : Int64)) := by
  congr 1
  have r := rng64 v
  have a := own_ushrL v (12 : Int32) 12 (by decide) (by decide)
  have b := own_ushrL v (9 : Int32) 9 (by decide) (by decide)
  have c := c_maskL v (4095 : Int64) 12 (by decide) (by decide)
  have d := c_maskL v (511 : Int64) 9 (by decide) (by decide)
  generalize XT.ushrL v (12 : Int32) = x at a ⊢
  generalize XT.ushrL v (9 : Int32) = y at b ⊢
  generalize (v &&& (4095 : Int64)) = z at c ⊢
  generalize (v &&& (511 : Int64)) = w at d ⊢
  have k1 : (1000 : Int64).toInt = 1000 := by decide
  have k2 : (125 : Int64).toInt = 125 := by decide
  have ra : 0 ≤ x.toInt ∧ x.toInt < 4503599627370496 := by omega
  have rb : 0 ≤ y.toInt ∧ y.toInt < 36028797018963968 := by omega
  have rc : 0 ≤ z.toInt ∧ z.toInt < 4096 := by omega
  have rd : 0 ≤ w.toInt ∧ w.toInt < 512 := by omega
  have e1 : (x * 1000).toInt = x.toInt * 1000 := by rw [XT.mul64 (by rw [k1]; exact ⟨by omega, by omega⟩), k1]
  have e2 : (z * 1000).toInt = z.toInt * 1000 := by rw [XT.mul64 (by rw [k1]; exact ⟨by omega, by omega⟩), k1]
  have e3 : (y * 125).toInt = y.toInt * 125 := by rw [XT.mul64 (by rw [k2]; exact ⟨by omega, by omega⟩), k2]
  have e4 : (w * 125).toInt = w.toInt * 125 := by rw [XT.mul64 (by rw [k2]; exact ⟨by omega, by omega⟩), k2]
  generalize x * 1000 = x' at e1 ⊢
  generalize z * 1000 = z' at e2 ⊢
  generalize y * 125 = y' at e3 ⊢
  generalize w * 125 = w' at e4 ⊢
  have f1 := (c_ldiv z' 4096 4096 (by decide) (by decide)).1 (by omega)
  have f2 := (c_ldiv w' 512 512 (by decide) (by decide)).1 (by omega)
  generalize z' / 4096 = z2 at f1 ⊢
  generalize w' / 512 = w2 at f2 ⊢
  have q1 : 0 ≤ z2.toInt ∧ z2.toInt < 1000 := by omega
  have q2 : 0 ≤ w2.toInt ∧ w2.toInt < 125 := by omega
  have g1 : (x' + z2).toInt = x'.toInt + z2.toInt := XT.add64 ⟨by omega, by omega⟩
  have g2 : (y' + w2).toInt = y'.toInt + w2.toInt := XT.add64 ⟨by omega, by omega⟩
  apply Int64.toInt_inj.mp
  rw [g1, g2, e1, e3, f1, f2, e2, e4]
  have t1 : (2 ^ 12 : Nat) = 4096 := by decide
  have t2 : (2 ^ 9 : Nat) = 512 := by decide
  rw [a, b, c, d, t1, t2]
  have h1 : v.toInt % 4096 = v.toInt % 18446744073709551616 % 4096 := by omega
  have h2 : v.toInt % 512 = v.toInt % 18446744073709551616 % 512 := by omega
  have h3 : 0 ≤ v.toInt % 18446744073709551616 ∧ v.toInt % 18446744073709551616 < 18446744073709551616 := by omega
  show v.toInt % 18446744073709551616 / 4096 * 1000 + v.toInt % 4096 * 1000 / 4096 = v.toInt % 18446744073709551616 / 512 * 125 + v.toInt % 512 * 125 / 512
  rw [h1, h2]
  generalize v.toInt % 18446744073709551616 = W at h3 ⊢
  clear r ra rb rc rd h1 h2 t1 t2 q1 q2 g1 g2
  omega
theorem own_nanos (v : Int64) : ((((XT.ushrL (((((((((((((((((0 : Int64) <<< (Int32.toInt64 (8 : Int32) &&& 63)) ||| (((((XT.ushrL v (56 : Int32)).toInt32).toInt8.toInt32).toInt8.toInt32) &&& (255 : Int32)).toInt64) <<< (Int32.toInt64 (8 : Int32) &&& 63)) ||| (((((XT.ushrL v (48 : Int32)).toInt32).toInt8.toInt32).toInt8.toInt32) &&& (255 : Int32)).toInt64) <<< (Int32.toInt64 (8 : Int32) &&& 63)) ||| (((((XT.ushrL v (40 : Int32)).toInt32).toInt8.toInt32).toInt8.toInt32) &&& (255 : Int32)).toInt64) <<< (Int32.toInt64 (8 : Int32) &&& 63)) ||| (((((XT.ushrL v (32 : Int32)).toInt32).toInt8.toInt32).toInt8.toInt32) &&& (255 : Int32)).toInt64) <<< (Int32.toInt64 (8 : Int32) &&& 63)) ||| (((((XT.ushrL v (24 : Int32)).toInt32).toInt8.toInt32).toInt8.toInt32) &&& (255 : Int32)).toInt64) <<< (Int32.toInt64 (8 : Int32) &&& 63)) ||| (((((XT.ushrL v (16 : Int32)).toInt32).toInt8.toInt32).toInt8.toInt32) &&& (255 : Int32)).toInt64) <<< (Int32.toInt64 (8 : Int32) &&& 63)) ||| (((((XT.ushrL v (8 : Int32)).toInt32).toInt8.toInt32).toInt8.toInt32) &&& (255 : Int32)).toInt64) <<< (Int32.toInt64 (8 : Int32) &&& 63)) ||| (v.toInt32.toInt8.toInt32.toInt8.toInt32 &&& (255 : Int32)).toInt64) (12 : Int32)) * (1000 : Int64)) + ((((((((((((((((((((0 : Int64) <<< (Int32.toInt64 (8 : Int32) &&& 63)) ||| (((((XT.ushrL v (56 : Int32)).toInt32).toInt8.toInt32).toInt8.toInt32) &&& (255 : Int32)).toInt64) <<< (Int32.toInt64 (8 : Int32) &&& 63)) ||| (((((XT.ushrL v (48 : Int32)).toInt32).toInt8.toInt32).toInt8.toInt32) &&& (255 : Int32)).toInt64) <<< (Int32.toInt64 (8 : Int32) &&& 63)) ||| (((((XT.ushrL v (40 : Int32)).toInt32).toInt8.toInt32).toInt8.toInt32) &&& (255 : Int32)).toInt64) <<< (Int32.toInt64 (8 : Int32) &&& 63)) ||| (((((XT.ushrL v (32 : Int32)).toInt32).toInt8.toInt32).toInt8.toInt32) &&& (255 : Int32)).toInt64) <<< (Int32.toInt64 (8 : Int32) &&& 63)) ||| (((((XT.ushrL v (24 : Int32)).toInt32).toInt8.toInt32).toInt8.toInt32) &&& (255 : Int32)).toInt64) <<< (Int32.toInt64 (8 : Int32) &&& 63)) ||| (((((XT.ushrL v (16 : Int32)).toInt32).toInt8.toInt32).toInt8.toInt32) &&& (255 : Int32)).toInt64) <<< (Int32.toInt64 (8 : Int32) &&& 63)) ||| (((((XT.ushrL v (8 : Int32)).toInt32).toInt8.toInt32).toInt8.toInt32) &&& (255 : Int32)).toInt64) <<< (Int32.toInt64 (8 : Int32) &&& 63)) ||| (v.toInt32.toInt8.toInt32.toInt8.toInt32 &&& (255 : Int32)).toInt64) &&& (4095 : Int64)) * (1000 : Int64)) / (4096 : Int64))) - (2208988800000000000 : Int64)) = ((((XT.ushrL v (9 : Int32)) * (125 : Int64)) + (((v &&& (511 : Int64)) * (125 : Int64)) / (512 : Int64))) - (2208988800000000000 : Int64)) := by
  rw [own_tod v]; exact own_nan v
theorem d2_0 : decode prog_44_method_3_code 0 = .ok (.lconst 0, 1) := by decide +kernel
theorem d2_1 : decode prog_44_method_3_code 1 = .ok (.lstore_n 2, 1) := by decide +kernel
theorem d2_2 : decode prog_44_method_3_code 2 = .ok (.iconst 1, 1) := by decide +kernel
theorem d2_3 : decode prog_44_method_3_code 3 = .ok (.istore 4, 2) := by decide +kernel
theorem d2_5 : decode prog_44_method_3_code 5 = .ok (.iload 4, 2) := by decide +kernel
theorem d2_7 : decode prog_44_method_3_code 7 = .ok (.bipush 8, 2) := by decide +kernel
theorem d2_9 : decode prog_44_method_3_code 9 = .ok (.if_icmp .gt 26, 3) := by decide +kernel
theorem d2_12 : decode prog_44_method_3_code 12 = .ok (.lload_n 2, 1) := by decide +kernel
theorem d2_13 : decode prog_44_method_3_code 13 = .ok (.bipush 8, 2) := by decide +kernel
theorem d2_15 : decode prog_44_method_3_code 15 = .ok (.lshl, 1) := by decide +kernel
theorem d2_16 : decode prog_44_method_3_code 16 = .ok (.aload_n 0, 1) := by decide +kernel
theorem d2_17 : decode prog_44_method_3_code 17 = .ok (.iload_n 1, 1) := by decide +kernel
theorem d2_18 : decode prog_44_method_3_code 18 = .ok (.iload 4, 2) := by decide +kernel
theorem d2_20 : decode prog_44_method_3_code 20 = .ok (.iadd, 1) := by decide +kernel
theorem d2_21 : decode prog_44_method_3_code 21 = .ok (.baload, 1) := by decide +kernel
theorem d2_22 : decode prog_44_method_3_code 22 = .ok (.sipush 255, 3) := by decide +kernel
theorem d2_25 : decode prog_44_method_3_code 25 = .ok (.iand, 1) := by decide +kernel
theorem d2_26 : decode prog_44_method_3_code 26 = .ok (.i2l, 1) := by decide +kernel
theorem d2_27 : decode prog_44_method_3_code 27 = .ok (.lor, 1) := by decide +kernel
theorem d2_28 : decode prog_44_method_3_code 28 = .ok (.lstore_n 2, 1) := by decide +kernel
theorem d2_29 : decode prog_44_method_3_code 29 = .ok (.iinc 4 1, 3) := by decide +kernel
theorem d2_32 : decode prog_44_method_3_code 32 = .ok (.goto (-27), 3) := by decide +kernel
theorem d2_35 : decode prog_44_method_3_code 35 = .ok (.lload_n 2, 1) := by decide +kernel
theorem d2_36 : decode prog_44_method_3_code 36 = .ok (.lreturn, 1) := by decide +kernel
theorem ef_rm2 (m : MethodId) (b : Addr) (off : Int32) : entryFrame m #[(.ref b), (.int off)] 5 = mkF m 0 #[.val (.ref b), .val (.int off), .unset, .unset, .unset] [] := by first | (simp [entryFrame, mkF, argsToLocals, Value.category]; done) | rfl
theorem pn0 : plainName "com/example/traceloom/traceloom/smf/Stcke" = true := by first | (simp [plainName, overriddenIn]; done) | decide +kernel
set_option maxRecDepth 65536 in
set_option maxHeartbeats 40000000 in
theorem rm2 (l : Launch) (Z : State) (a0 : Array Value) (hw : ∀ d ∈ tables_1, d.before a0 Z = true) (b : Addr) (off : Int32) (vs : List Value) (y1 : Int32) (y2 : Int32) (y3 : Int32) (y4 : Int32) (y5 : Int32) (y6 : Int32) (y7 : Int32) (y8 : Int32) (h0 : Heap) (n0 : Nat) (Z0 : n0 ≤ h0.size) (V_b : Own.VArr Z h0 b .byte vs) (hn1 : ¬ (off + (1 : Int32)) < 0) (hv1 : vs[(off + (1 : Int32)).toNatClampNeg]? = some (.int y1)) (hn2 : ¬ (off + (2 : Int32)) < 0) (hv2 : vs[(off + (2 : Int32)).toNatClampNeg]? = some (.int y2)) (hn3 : ¬ (off + (3 : Int32)) < 0) (hv3 : vs[(off + (3 : Int32)).toNatClampNeg]? = some (.int y3)) (hn4 : ¬ (off + (4 : Int32)) < 0) (hv4 : vs[(off + (4 : Int32)).toNatClampNeg]? = some (.int y4)) (hn5 : ¬ (off + (5 : Int32)) < 0) (hv5 : vs[(off + (5 : Int32)).toNatClampNeg]? = some (.int y5)) (hn6 : ¬ (off + (6 : Int32)) < 0) (hv6 : vs[(off + (6 : Int32)).toNatClampNeg]? = some (.int y6)) (hn7 : ¬ (off + (7 : Int32)) < 0) (hv7 : vs[(off + (7 : Int32)).toNatClampNeg]? = some (.int y7)) (hn8 : ¬ (off + (8 : Int32)) < 0) (hv8 : vs[(off + (8 : Int32)).toNatClampNeg]? = some (.int y8)) :
    Own.Ct l (⟨"com/example/traceloom/traceloom/smf/Stcke", "tod", "([BI)J"⟩ : MethodName) prog_44_method_3_code 5 (some .long) [] ({ frames := 0, cells := 0, slots := 0, locals := 0 } : Room) Z #[(.ref b), (.int off)] h0 (fun rV hP lC => rV = some (.long (((((((((((((((((0 : Int64) <<< (Int32.toInt64 (8 : Int32) &&& 63)) ||| (y1 &&& (255 : Int32)).toInt64) <<< (Int32.toInt64 (8 : Int32) &&& 63)) ||| (y2 &&& (255 : Int32)).toInt64) <<< (Int32.toInt64 (8 : Int32) &&& 63)) ||| (y3 &&& (255 : Int32)).toInt64) <<< (Int32.toInt64 (8 : Int32) &&& 63)) ||| (y4 &&& (255 : Int32)).toInt64) <<< (Int32.toInt64 (8 : Int32) &&& 63)) ||| (y5 &&& (255 : Int32)).toInt64) <<< (Int32.toInt64 (8 : Int32) &&& 63)) ||| (y6 &&& (255 : Int32)).toInt64) <<< (Int32.toInt64 (8 : Int32) &&& 63)) ||| (y7 &&& (255 : Int32)).toInt64) <<< (Int32.toInt64 (8 : Int32) &&& 63)) ||| (y8 &&& (255 : Int32)).toInt64)) ∧ Fr n0 lC ∧ hP = h0) := by
  refine Own.enter (plainFor_of_name pn0) ?_
  intro p e s m below meth cc s₁ hx hby hml hown hnm hret hk hZ X0 e0
  have N0 := Fr.nil n0
  refine Own.start (ef_rm2 m b off) ?_
  refine Own.lconst X0 hx (pc := 0) (0 : Int64) (hb hby d2_0) (by decide) ?_
  refine Own.lstoreN X0 hx (pc := 1) #[.val (.ref b), .val (.int off), .val (.long (0 : Int64)), .second, .unset] (hb hby d2_1) rfl ?_
  refine Own.iconst X0 hx (pc := 2) (1 : Int32) (hb hby d2_2) (by decide) ?_
  refine Own.istore X0 hx (pc := 3) #[.val (.ref b), .val (.int off), .val (.long (0 : Int64)), .second, .val (.int (1 : Int32))] (hb hby d2_3) rfl ?_
  refine Own.iload X0 hx (pc := 5) (hb hby d2_5) rfl ?_
  refine Own.bipush X0 hx (pc := 7) (8 : Int32) (hb hby d2_7) (by decide) ?_
  refine Own.icmpNo X0 hx (pc := 9) (hb hby d2_9) (by decide) ?_
  refine Own.lloadN X0 hx (pc := 12) (hb hby d2_12) rfl ?_
  refine Own.bipush X0 hx (pc := 13) (8 : Int32) (hb hby d2_13) (by decide) ?_
  refine Own.lshl X0 hx (pc := 15) (hb hby d2_15) ?_
  refine Own.topJ (show ((0 : Int64) <<< (Int32.toInt64 (8 : Int32) &&& 63)) = (0 : Int64) by decide) ?_
  refine Own.aloadN X0 hx (pc := 16) (hb hby d2_16) rfl rfl ?_
  refine Own.iloadN X0 hx (pc := 17) (hb hby d2_17) rfl ?_
  refine Own.iload X0 hx (pc := 18) (hb hby d2_18) rfl ?_
  refine Own.iadd X0 hx (pc := 20) (hb hby d2_20) ?_
  refine Own.baload X0 hx hZ (pc := 21) e0 V_b (v := (.int y1)) (off + (1 : Int32)).toNatClampNeg hn1 rfl hv1 (hb hby d2_21) ?_
  refine Own.sipush X0 hx (pc := 22) (255 : Int32) (hb hby d2_22) (by decide) ?_
  refine Own.iand X0 hx (pc := 25) (hb hby d2_25) ?_
  refine Own.i2l X0 hx (pc := 26) (hb hby d2_26) ?_
  refine Own.lor X0 hx (pc := 27) (hb hby d2_27) ?_
  refine Own.lstoreN X0 hx (pc := 28) #[.val (.ref b), .val (.int off), .val (.long ((0 : Int64) ||| (y1 &&& (255 : Int32)).toInt64)), .second, .val (.int (1 : Int32))] (hb hby d2_28) rfl ?_
  refine Own.iincV X0 hx (pc := 29) (1 : Int32) (2 : Int32) #[.val (.ref b), .val (.int off), .val (.long ((0 : Int64) ||| (y1 &&& (255 : Int32)).toInt64)), .second, .val (.int (2 : Int32))] (hb hby d2_29) (by decide) rfl (by decide) rfl ?_
  refine Own.goto X0 hx (pc := 32) 5 (hb hby d2_32) (by decide) (by decide) ?_
  refine Own.iload X0 hx (pc := 5) (hb hby d2_5) rfl ?_
  refine Own.bipush X0 hx (pc := 7) (8 : Int32) (hb hby d2_7) (by decide) ?_
  refine Own.icmpNo X0 hx (pc := 9) (hb hby d2_9) (by decide) ?_
  refine Own.lloadN X0 hx (pc := 12) (hb hby d2_12) rfl ?_
  refine Own.bipush X0 hx (pc := 13) (8 : Int32) (hb hby d2_13) (by decide) ?_
  refine Own.lshl X0 hx (pc := 15) (hb hby d2_15) ?_
  refine Own.aloadN X0 hx (pc := 16) (hb hby d2_16) rfl rfl ?_
  refine Own.iloadN X0 hx (pc := 17) (hb hby d2_17) rfl ?_
  refine Own.iload X0 hx (pc := 18) (hb hby d2_18) rfl ?_
  refine Own.iadd X0 hx (pc := 20) (hb hby d2_20) ?_
  refine Own.baload X0 hx hZ (pc := 21) e0 V_b (v := (.int y2)) (off + (2 : Int32)).toNatClampNeg hn2 rfl hv2 (hb hby d2_21) ?_
  refine Own.sipush X0 hx (pc := 22) (255 : Int32) (hb hby d2_22) (by decide) ?_
  refine Own.iand X0 hx (pc := 25) (hb hby d2_25) ?_
  refine Own.i2l X0 hx (pc := 26) (hb hby d2_26) ?_
  refine Own.lor X0 hx (pc := 27) (hb hby d2_27) ?_
  refine Own.lstoreN X0 hx (pc := 28) #[.val (.ref b), .val (.int off), .val (.long ((((0 : Int64) ||| (y1 &&& (255 : Int32)).toInt64) <<< (Int32.toInt64 (8 : Int32) &&& 63)) ||| (y2 &&& (255 : Int32)).toInt64)), .second, .val (.int (2 : Int32))] (hb hby d2_28) rfl ?_
  refine Own.iincV X0 hx (pc := 29) (1 : Int32) (3 : Int32) #[.val (.ref b), .val (.int off), .val (.long ((((0 : Int64) ||| (y1 &&& (255 : Int32)).toInt64) <<< (Int32.toInt64 (8 : Int32) &&& 63)) ||| (y2 &&& (255 : Int32)).toInt64)), .second, .val (.int (3 : Int32))] (hb hby d2_29) (by decide) rfl (by decide) rfl ?_
  refine Own.goto X0 hx (pc := 32) 5 (hb hby d2_32) (by decide) (by decide) ?_
  refine Own.iload X0 hx (pc := 5) (hb hby d2_5) rfl ?_
  refine Own.bipush X0 hx (pc := 7) (8 : Int32) (hb hby d2_7) (by decide) ?_
  refine Own.icmpNo X0 hx (pc := 9) (hb hby d2_9) (by decide) ?_
  refine Own.lloadN X0 hx (pc := 12) (hb hby d2_12) rfl ?_
  refine Own.bipush X0 hx (pc := 13) (8 : Int32) (hb hby d2_13) (by decide) ?_
  refine Own.lshl X0 hx (pc := 15) (hb hby d2_15) ?_
  refine Own.aloadN X0 hx (pc := 16) (hb hby d2_16) rfl rfl ?_
  refine Own.iloadN X0 hx (pc := 17) (hb hby d2_17) rfl ?_
  refine Own.iload X0 hx (pc := 18) (hb hby d2_18) rfl ?_
  refine Own.iadd X0 hx (pc := 20) (hb hby d2_20) ?_
  refine Own.baload X0 hx hZ (pc := 21) e0 V_b (v := (.int y3)) (off + (3 : Int32)).toNatClampNeg hn3 rfl hv3 (hb hby d2_21) ?_
  refine Own.sipush X0 hx (pc := 22) (255 : Int32) (hb hby d2_22) (by decide) ?_
  refine Own.iand X0 hx (pc := 25) (hb hby d2_25) ?_
  refine Own.i2l X0 hx (pc := 26) (hb hby d2_26) ?_
  refine Own.lor X0 hx (pc := 27) (hb hby d2_27) ?_
  refine Own.lstoreN X0 hx (pc := 28) #[.val (.ref b), .val (.int off), .val (.long ((((((0 : Int64) ||| (y1 &&& (255 : Int32)).toInt64) <<< (Int32.toInt64 (8 : Int32) &&& 63)) ||| (y2 &&& (255 : Int32)).toInt64) <<< (Int32.toInt64 (8 : Int32) &&& 63)) ||| (y3 &&& (255 : Int32)).toInt64)), .second, .val (.int (3 : Int32))] (hb hby d2_28) rfl ?_
  refine Own.iincV X0 hx (pc := 29) (1 : Int32) (4 : Int32) #[.val (.ref b), .val (.int off), .val (.long ((((((0 : Int64) ||| (y1 &&& (255 : Int32)).toInt64) <<< (Int32.toInt64 (8 : Int32) &&& 63)) ||| (y2 &&& (255 : Int32)).toInt64) <<< (Int32.toInt64 (8 : Int32) &&& 63)) ||| (y3 &&& (255 : Int32)).toInt64)), .second, .val (.int (4 : Int32))] (hb hby d2_29) (by decide) rfl (by decide) rfl ?_
  refine Own.goto X0 hx (pc := 32) 5 (hb hby d2_32) (by decide) (by decide) ?_
  refine Own.iload X0 hx (pc := 5) (hb hby d2_5) rfl ?_
  refine Own.bipush X0 hx (pc := 7) (8 : Int32) (hb hby d2_7) (by decide) ?_
  refine Own.icmpNo X0 hx (pc := 9) (hb hby d2_9) (by decide) ?_
  refine Own.lloadN X0 hx (pc := 12) (hb hby d2_12) rfl ?_
  refine Own.bipush X0 hx (pc := 13) (8 : Int32) (hb hby d2_13) (by decide) ?_
  refine Own.lshl X0 hx (pc := 15) (hb hby d2_15) ?_
  refine Own.aloadN X0 hx (pc := 16) (hb hby d2_16) rfl rfl ?_
  refine Own.iloadN X0 hx (pc := 17) (hb hby d2_17) rfl ?_
  refine Own.iload X0 hx (pc := 18) (hb hby d2_18) rfl ?_
  refine Own.iadd X0 hx (pc := 20) (hb hby d2_20) ?_
  refine Own.baload X0 hx hZ (pc := 21) e0 V_b (v := (.int y4)) (off + (4 : Int32)).toNatClampNeg hn4 rfl hv4 (hb hby d2_21) ?_
  refine Own.sipush X0 hx (pc := 22) (255 : Int32) (hb hby d2_22) (by decide) ?_
  refine Own.iand X0 hx (pc := 25) (hb hby d2_25) ?_
  refine Own.i2l X0 hx (pc := 26) (hb hby d2_26) ?_
  refine Own.lor X0 hx (pc := 27) (hb hby d2_27) ?_
  refine Own.lstoreN X0 hx (pc := 28) #[.val (.ref b), .val (.int off), .val (.long ((((((((0 : Int64) ||| (y1 &&& (255 : Int32)).toInt64) <<< (Int32.toInt64 (8 : Int32) &&& 63)) ||| (y2 &&& (255 : Int32)).toInt64) <<< (Int32.toInt64 (8 : Int32) &&& 63)) ||| (y3 &&& (255 : Int32)).toInt64) <<< (Int32.toInt64 (8 : Int32) &&& 63)) ||| (y4 &&& (255 : Int32)).toInt64)), .second, .val (.int (4 : Int32))] (hb hby d2_28) rfl ?_
  refine Own.iincV X0 hx (pc := 29) (1 : Int32) (5 : Int32) #[.val (.ref b), .val (.int off), .val (.long ((((((((0 : Int64) ||| (y1 &&& (255 : Int32)).toInt64) <<< (Int32.toInt64 (8 : Int32) &&& 63)) ||| (y2 &&& (255 : Int32)).toInt64) <<< (Int32.toInt64 (8 : Int32) &&& 63)) ||| (y3 &&& (255 : Int32)).toInt64) <<< (Int32.toInt64 (8 : Int32) &&& 63)) ||| (y4 &&& (255 : Int32)).toInt64)), .second, .val (.int (5 : Int32))] (hb hby d2_29) (by decide) rfl (by decide) rfl ?_
  refine Own.goto X0 hx (pc := 32) 5 (hb hby d2_32) (by decide) (by decide) ?_
  refine Own.iload X0 hx (pc := 5) (hb hby d2_5) rfl ?_
  refine Own.bipush X0 hx (pc := 7) (8 : Int32) (hb hby d2_7) (by decide) ?_
  refine Own.icmpNo X0 hx (pc := 9) (hb hby d2_9) (by decide) ?_
  refine Own.lloadN X0 hx (pc := 12) (hb hby d2_12) rfl ?_
  refine Own.bipush X0 hx (pc := 13) (8 : Int32) (hb hby d2_13) (by decide) ?_
  refine Own.lshl X0 hx (pc := 15) (hb hby d2_15) ?_
  refine Own.aloadN X0 hx (pc := 16) (hb hby d2_16) rfl rfl ?_
  refine Own.iloadN X0 hx (pc := 17) (hb hby d2_17) rfl ?_
  refine Own.iload X0 hx (pc := 18) (hb hby d2_18) rfl ?_
  refine Own.iadd X0 hx (pc := 20) (hb hby d2_20) ?_
  refine Own.baload X0 hx hZ (pc := 21) e0 V_b (v := (.int y5)) (off + (5 : Int32)).toNatClampNeg hn5 rfl hv5 (hb hby d2_21) ?_
  refine Own.sipush X0 hx (pc := 22) (255 : Int32) (hb hby d2_22) (by decide) ?_
  refine Own.iand X0 hx (pc := 25) (hb hby d2_25) ?_
  refine Own.i2l X0 hx (pc := 26) (hb hby d2_26) ?_
  refine Own.lor X0 hx (pc := 27) (hb hby d2_27) ?_
  refine Own.lstoreN X0 hx (pc := 28) #[.val (.ref b), .val (.int off), .val (.long ((((((((((0 : Int64) ||| (y1 &&& (255 : Int32)).toInt64) <<< (Int32.toInt64 (8 : Int32) &&& 63)) ||| (y2 &&& (255 : Int32)).toInt64) <<< (Int32.toInt64 (8 : Int32) &&& 63)) ||| (y3 &&& (255 : Int32)).toInt64) <<< (Int32.toInt64 (8 : Int32) &&& 63)) ||| (y4 &&& (255 : Int32)).toInt64) <<< (Int32.toInt64 (8 : Int32) &&& 63)) ||| (y5 &&& (255 : Int32)).toInt64)), .second, .val (.int (5 : Int32))] (hb hby d2_28) rfl ?_
  refine Own.iincV X0 hx (pc := 29) (1 : Int32) (6 : Int32) #[.val (.ref b), .val (.int off), .val (.long ((((((((((0 : Int64) ||| (y1 &&& (255 : Int32)).toInt64) <<< (Int32.toInt64 (8 : Int32) &&& 63)) ||| (y2 &&& (255 : Int32)).toInt64) <<< (Int32.toInt64 (8 : Int32) &&& 63)) ||| (y3 &&& (255 : Int32)).toInt64) <<< (Int32.toInt64 (8 : Int32) &&& 63)) ||| (y4 &&& (255 : Int32)).toInt64) <<< (Int32.toInt64 (8 : Int32) &&& 63)) ||| (y5 &&& (255 : Int32)).toInt64)), .second, .val (.int (6 : Int32))] (hb hby d2_29) (by decide) rfl (by decide) rfl ?_
  refine Own.goto X0 hx (pc := 32) 5 (hb hby d2_32) (by decide) (by decide) ?_
  refine Own.iload X0 hx (pc := 5) (hb hby d2_5) rfl ?_
  refine Own.bipush X0 hx (pc := 7) (8 : Int32) (hb hby d2_7) (by decide) ?_
  refine Own.icmpNo X0 hx (pc := 9) (hb hby d2_9) (by decide) ?_
  refine Own.lloadN X0 hx (pc := 12) (hb hby d2_12) rfl ?_
  refine Own.bipush X0 hx (pc := 13) (8 : Int32) (hb hby d2_13) (by decide) ?_
  refine Own.lshl X0 hx (pc := 15) (hb hby d2_15) ?_
  refine Own.aloadN X0 hx (pc := 16) (hb hby d2_16) rfl rfl ?_
  refine Own.iloadN X0 hx (pc := 17) (hb hby d2_17) rfl ?_
  refine Own.iload X0 hx (pc := 18) (hb hby d2_18) rfl ?_
  refine Own.iadd X0 hx (pc := 20) (hb hby d2_20) ?_
  refine Own.baload X0 hx hZ (pc := 21) e0 V_b (v := (.int y6)) (off + (6 : Int32)).toNatClampNeg hn6 rfl hv6 (hb hby d2_21) ?_
  refine Own.sipush X0 hx (pc := 22) (255 : Int32) (hb hby d2_22) (by decide) ?_
  refine Own.iand X0 hx (pc := 25) (hb hby d2_25) ?_
  refine Own.i2l X0 hx (pc := 26) (hb hby d2_26) ?_
  refine Own.lor X0 hx (pc := 27) (hb hby d2_27) ?_
  refine Own.lstoreN X0 hx (pc := 28) #[.val (.ref b), .val (.int off), .val (.long ((((((((((((0 : Int64) ||| (y1 &&& (255 : Int32)).toInt64) <<< (Int32.toInt64 (8 : Int32) &&& 63)) ||| (y2 &&& (255 : Int32)).toInt64) <<< (Int32.toInt64 (8 : Int32) &&& 63)) ||| (y3 &&& (255 : Int32)).toInt64) <<< (Int32.toInt64 (8 : Int32) &&& 63)) ||| (y4 &&& (255 : Int32)).toInt64) <<< (Int32.toInt64 (8 : Int32) &&& 63)) ||| (y5 &&& (255 : Int32)).toInt64) <<< (Int32.toInt64 (8 : Int32) &&& 63)) ||| (y6 &&& (255 : Int32)).toInt64)), .second, .val (.int (6 : Int32))] (hb hby d2_28) rfl ?_
  refine Own.iincV X0 hx (pc := 29) (1 : Int32) (7 : Int32) #[.val (.ref b), .val (.int off), .val (.long ((((((((((((0 : Int64) ||| (y1 &&& (255 : Int32)).toInt64) <<< (Int32.toInt64 (8 : Int32) &&& 63)) ||| (y2 &&& (255 : Int32)).toInt64) <<< (Int32.toInt64 (8 : Int32) &&& 63)) ||| (y3 &&& (255 : Int32)).toInt64) <<< (Int32.toInt64 (8 : Int32) &&& 63)) ||| (y4 &&& (255 : Int32)).toInt64) <<< (Int32.toInt64 (8 : Int32) &&& 63)) ||| (y5 &&& (255 : Int32)).toInt64) <<< (Int32.toInt64 (8 : Int32) &&& 63)) ||| (y6 &&& (255 : Int32)).toInt64)), .second, .val (.int (7 : Int32))] (hb hby d2_29) (by decide) rfl (by decide) rfl ?_
  refine Own.goto X0 hx (pc := 32) 5 (hb hby d2_32) (by decide) (by decide) ?_
  refine Own.iload X0 hx (pc := 5) (hb hby d2_5) rfl ?_
  refine Own.bipush X0 hx (pc := 7) (8 : Int32) (hb hby d2_7) (by decide) ?_
  refine Own.icmpNo X0 hx (pc := 9) (hb hby d2_9) (by decide) ?_
  refine Own.lloadN X0 hx (pc := 12) (hb hby d2_12) rfl ?_
  refine Own.bipush X0 hx (pc := 13) (8 : Int32) (hb hby d2_13) (by decide) ?_
  refine Own.lshl X0 hx (pc := 15) (hb hby d2_15) ?_
  refine Own.aloadN X0 hx (pc := 16) (hb hby d2_16) rfl rfl ?_
  refine Own.iloadN X0 hx (pc := 17) (hb hby d2_17) rfl ?_
  refine Own.iload X0 hx (pc := 18) (hb hby d2_18) rfl ?_
  refine Own.iadd X0 hx (pc := 20) (hb hby d2_20) ?_
  refine Own.baload X0 hx hZ (pc := 21) e0 V_b (v := (.int y7)) (off + (7 : Int32)).toNatClampNeg hn7 rfl hv7 (hb hby d2_21) ?_
  refine Own.sipush X0 hx (pc := 22) (255 : Int32) (hb hby d2_22) (by decide) ?_
  refine Own.iand X0 hx (pc := 25) (hb hby d2_25) ?_
  refine Own.i2l X0 hx (pc := 26) (hb hby d2_26) ?_
  refine Own.lor X0 hx (pc := 27) (hb hby d2_27) ?_
  refine Own.lstoreN X0 hx (pc := 28) #[.val (.ref b), .val (.int off), .val (.long ((((((((((((((0 : Int64) ||| (y1 &&& (255 : Int32)).toInt64) <<< (Int32.toInt64 (8 : Int32) &&& 63)) ||| (y2 &&& (255 : Int32)).toInt64) <<< (Int32.toInt64 (8 : Int32) &&& 63)) ||| (y3 &&& (255 : Int32)).toInt64) <<< (Int32.toInt64 (8 : Int32) &&& 63)) ||| (y4 &&& (255 : Int32)).toInt64) <<< (Int32.toInt64 (8 : Int32) &&& 63)) ||| (y5 &&& (255 : Int32)).toInt64) <<< (Int32.toInt64 (8 : Int32) &&& 63)) ||| (y6 &&& (255 : Int32)).toInt64) <<< (Int32.toInt64 (8 : Int32) &&& 63)) ||| (y7 &&& (255 : Int32)).toInt64)), .second, .val (.int (7 : Int32))] (hb hby d2_28) rfl ?_
  refine Own.iincV X0 hx (pc := 29) (1 : Int32) (8 : Int32) #[.val (.ref b), .val (.int off), .val (.long ((((((((((((((0 : Int64) ||| (y1 &&& (255 : Int32)).toInt64) <<< (Int32.toInt64 (8 : Int32) &&& 63)) ||| (y2 &&& (255 : Int32)).toInt64) <<< (Int32.toInt64 (8 : Int32) &&& 63)) ||| (y3 &&& (255 : Int32)).toInt64) <<< (Int32.toInt64 (8 : Int32) &&& 63)) ||| (y4 &&& (255 : Int32)).toInt64) <<< (Int32.toInt64 (8 : Int32) &&& 63)) ||| (y5 &&& (255 : Int32)).toInt64) <<< (Int32.toInt64 (8 : Int32) &&& 63)) ||| (y6 &&& (255 : Int32)).toInt64) <<< (Int32.toInt64 (8 : Int32) &&& 63)) ||| (y7 &&& (255 : Int32)).toInt64)), .second, .val (.int (8 : Int32))] (hb hby d2_29) (by decide) rfl (by decide) rfl ?_
  refine Own.goto X0 hx (pc := 32) 5 (hb hby d2_32) (by decide) (by decide) ?_
  refine Own.iload X0 hx (pc := 5) (hb hby d2_5) rfl ?_
  refine Own.bipush X0 hx (pc := 7) (8 : Int32) (hb hby d2_7) (by decide) ?_
  refine Own.icmpNo X0 hx (pc := 9) (hb hby d2_9) (by decide) ?_
  refine Own.lloadN X0 hx (pc := 12) (hb hby d2_12) rfl ?_
  refine Own.bipush X0 hx (pc := 13) (8 : Int32) (hb hby d2_13) (by decide) ?_
  refine Own.lshl X0 hx (pc := 15) (hb hby d2_15) ?_
  refine Own.aloadN X0 hx (pc := 16) (hb hby d2_16) rfl rfl ?_
  refine Own.iloadN X0 hx (pc := 17) (hb hby d2_17) rfl ?_
  refine Own.iload X0 hx (pc := 18) (hb hby d2_18) rfl ?_
  refine Own.iadd X0 hx (pc := 20) (hb hby d2_20) ?_
  refine Own.baload X0 hx hZ (pc := 21) e0 V_b (v := (.int y8)) (off + (8 : Int32)).toNatClampNeg hn8 rfl hv8 (hb hby d2_21) ?_
  refine Own.sipush X0 hx (pc := 22) (255 : Int32) (hb hby d2_22) (by decide) ?_
  refine Own.iand X0 hx (pc := 25) (hb hby d2_25) ?_
  refine Own.i2l X0 hx (pc := 26) (hb hby d2_26) ?_
  refine Own.lor X0 hx (pc := 27) (hb hby d2_27) ?_
  refine Own.lstoreN X0 hx (pc := 28) #[.val (.ref b), .val (.int off), .val (.long ((((((((((((((((0 : Int64) ||| (y1 &&& (255 : Int32)).toInt64) <<< (Int32.toInt64 (8 : Int32) &&& 63)) ||| (y2 &&& (255 : Int32)).toInt64) <<< (Int32.toInt64 (8 : Int32) &&& 63)) ||| (y3 &&& (255 : Int32)).toInt64) <<< (Int32.toInt64 (8 : Int32) &&& 63)) ||| (y4 &&& (255 : Int32)).toInt64) <<< (Int32.toInt64 (8 : Int32) &&& 63)) ||| (y5 &&& (255 : Int32)).toInt64) <<< (Int32.toInt64 (8 : Int32) &&& 63)) ||| (y6 &&& (255 : Int32)).toInt64) <<< (Int32.toInt64 (8 : Int32) &&& 63)) ||| (y7 &&& (255 : Int32)).toInt64) <<< (Int32.toInt64 (8 : Int32) &&& 63)) ||| (y8 &&& (255 : Int32)).toInt64)), .second, .val (.int (8 : Int32))] (hb hby d2_28) rfl ?_
  refine Own.iincV X0 hx (pc := 29) (1 : Int32) (9 : Int32) #[.val (.ref b), .val (.int off), .val (.long ((((((((((((((((0 : Int64) ||| (y1 &&& (255 : Int32)).toInt64) <<< (Int32.toInt64 (8 : Int32) &&& 63)) ||| (y2 &&& (255 : Int32)).toInt64) <<< (Int32.toInt64 (8 : Int32) &&& 63)) ||| (y3 &&& (255 : Int32)).toInt64) <<< (Int32.toInt64 (8 : Int32) &&& 63)) ||| (y4 &&& (255 : Int32)).toInt64) <<< (Int32.toInt64 (8 : Int32) &&& 63)) ||| (y5 &&& (255 : Int32)).toInt64) <<< (Int32.toInt64 (8 : Int32) &&& 63)) ||| (y6 &&& (255 : Int32)).toInt64) <<< (Int32.toInt64 (8 : Int32) &&& 63)) ||| (y7 &&& (255 : Int32)).toInt64) <<< (Int32.toInt64 (8 : Int32) &&& 63)) ||| (y8 &&& (255 : Int32)).toInt64)), .second, .val (.int (9 : Int32))] (hb hby d2_29) (by decide) rfl (by decide) rfl ?_
  refine Own.goto X0 hx (pc := 32) 5 (hb hby d2_32) (by decide) (by decide) ?_
  refine Own.iload X0 hx (pc := 5) (hb hby d2_5) rfl ?_
  refine Own.bipush X0 hx (pc := 7) (8 : Int32) (hb hby d2_7) (by decide) ?_
  refine Own.icmpYes X0 hx (pc := 9) 35 (hb hby d2_9) (by decide) (by decide) (by decide) ?_
  refine Own.lloadN X0 hx (pc := 35) (hb hby d2_35) rfl ?_
  exact Own.lreturn X0 hx hk hret (hb hby d2_36) e0 ⟨rfl, N0, rfl⟩ (by decide) (by decide)
theorem d1_0 : decode prog_44_method_2_code 0 = .ok (.aload_n 0, 1) := by decide +kernel
theorem d1_1 : decode prog_44_method_2_code 1 = .ok (.iload_n 1, 1) := by decide +kernel
theorem pd1 : parseMethodDescriptor "([BI)J" = some ⟨[(.array .byte), .int], some .long⟩ := by decide +kernel
theorem d1_2 : decode prog_44_method_2_code 2 = .ok (.invokestatic 7, 3) := by decide +kernel
theorem d1_5 : decode prog_44_method_2_code 5 = .ok (.lstore_n 2, 1) := by decide +kernel
theorem d1_6 : decode prog_44_method_2_code 6 = .ok (.lload_n 2, 1) := by decide +kernel
theorem d1_7 : decode prog_44_method_2_code 7 = .ok (.bipush 12, 2) := by decide +kernel
theorem d1_9 : decode prog_44_method_2_code 9 = .ok (.lushr, 1) := by decide +kernel
theorem d1_10 : decode prog_44_method_2_code 10 = .ok (.lstore 4, 2) := by decide +kernel
theorem d1_12 : decode prog_44_method_2_code 12 = .ok (.lload_n 2, 1) := by decide +kernel
theorem d1_13 : decode prog_44_method_2_code 13 = .ok (.ldc2_w 13, 3) := by decide +kernel
theorem d1_16 : decode prog_44_method_2_code 16 = .ok (.land, 1) := by decide +kernel
theorem d1_17 : decode prog_44_method_2_code 17 = .ok (.lstore 6, 2) := by decide +kernel
theorem d1_19 : decode prog_44_method_2_code 19 = .ok (.lload 4, 2) := by decide +kernel
theorem d1_21 : decode prog_44_method_2_code 21 = .ok (.ldc2_w 15, 3) := by decide +kernel
theorem d1_24 : decode prog_44_method_2_code 24 = .ok (.lmul, 1) := by decide +kernel
theorem d1_25 : decode prog_44_method_2_code 25 = .ok (.lload 6, 2) := by decide +kernel
theorem d1_27 : decode prog_44_method_2_code 27 = .ok (.ldc2_w 15, 3) := by decide +kernel
theorem d1_30 : decode prog_44_method_2_code 30 = .ok (.lmul, 1) := by decide +kernel
theorem d1_31 : decode prog_44_method_2_code 31 = .ok (.ldc2_w 17, 3) := by decide +kernel
theorem d1_34 : decode prog_44_method_2_code 34 = .ok (.ldiv, 1) := by decide +kernel
theorem d1_35 : decode prog_44_method_2_code 35 = .ok (.ladd, 1) := by decide +kernel
theorem d1_36 : decode prog_44_method_2_code 36 = .ok (.ldc2_w 19, 3) := by decide +kernel
theorem d1_39 : decode prog_44_method_2_code 39 = .ok (.lsub, 1) := by decide +kernel
theorem d1_40 : decode prog_44_method_2_code 40 = .ok (.lreturn, 1) := by decide +kernel
theorem ef_rm1 (m : MethodId) (b : Addr) (off : Int32) : entryFrame m #[(.ref b), (.int off)] 8 = mkF m 0 #[.val (.ref b), .val (.int off), .unset, .unset, .unset, .unset, .unset, .unset] [] := by first | (simp [entryFrame, mkF, argsToLocals, Value.category]; done) | rfl
set_option maxRecDepth 65536 in
set_option maxHeartbeats 40000000 in
theorem rm1 (l : Launch) (Z : State) (a0 : Array Value) (hw : ∀ d ∈ tables_1, d.before a0 Z = true) (b : Addr) (off : Int32) (vs : List Value) (y1 : Int32) (y2 : Int32) (y3 : Int32) (y4 : Int32) (y5 : Int32) (y6 : Int32) (y7 : Int32) (y8 : Int32) (h0 : Heap) (n0 : Nat) (Z0 : n0 ≤ h0.size) (V_b : Own.VArr Z h0 b .byte vs) (hn1 : ¬ (off + (1 : Int32)) < 0) (hv1 : vs[(off + (1 : Int32)).toNatClampNeg]? = some (.int y1)) (hn2 : ¬ (off + (2 : Int32)) < 0) (hv2 : vs[(off + (2 : Int32)).toNatClampNeg]? = some (.int y2)) (hn3 : ¬ (off + (3 : Int32)) < 0) (hv3 : vs[(off + (3 : Int32)).toNatClampNeg]? = some (.int y3)) (hn4 : ¬ (off + (4 : Int32)) < 0) (hv4 : vs[(off + (4 : Int32)).toNatClampNeg]? = some (.int y4)) (hn5 : ¬ (off + (5 : Int32)) < 0) (hv5 : vs[(off + (5 : Int32)).toNatClampNeg]? = some (.int y5)) (hn6 : ¬ (off + (6 : Int32)) < 0) (hv6 : vs[(off + (6 : Int32)).toNatClampNeg]? = some (.int y6)) (hn7 : ¬ (off + (7 : Int32)) < 0) (hv7 : vs[(off + (7 : Int32)).toNatClampNeg]? = some (.int y7)) (hn8 : ¬ (off + (8 : Int32)) < 0) (hv8 : vs[(off + (8 : Int32)).toNatClampNeg]? = some (.int y8)) :
    Own.Ct l (⟨"com/example/traceloom/traceloom/smf/Stcke", "unixNanos", "([BI)J"⟩ : MethodName) prog_44_method_2_code 8 (some .long) [] ({ frames := 1, cells := 0, slots := 0, locals := 16 } : Room) Z #[(.ref b), (.int off)] h0 (fun rV hP lC => rV = some (.long ((((XT.ushrL (((((((((((((((((0 : Int64) <<< (Int32.toInt64 (8 : Int32) &&& 63)) ||| (y1 &&& (255 : Int32)).toInt64) <<< (Int32.toInt64 (8 : Int32) &&& 63)) ||| (y2 &&& (255 : Int32)).toInt64) <<< (Int32.toInt64 (8 : Int32) &&& 63)) ||| (y3 &&& (255 : Int32)).toInt64) <<< (Int32.toInt64 (8 : Int32) &&& 63)) ||| (y4 &&& (255 : Int32)).toInt64) <<< (Int32.toInt64 (8 : Int32) &&& 63)) ||| (y5 &&& (255 : Int32)).toInt64) <<< (Int32.toInt64 (8 : Int32) &&& 63)) ||| (y6 &&& (255 : Int32)).toInt64) <<< (Int32.toInt64 (8 : Int32) &&& 63)) ||| (y7 &&& (255 : Int32)).toInt64) <<< (Int32.toInt64 (8 : Int32) &&& 63)) ||| (y8 &&& (255 : Int32)).toInt64) (12 : Int32)) * (1000 : Int64)) + ((((((((((((((((((((0 : Int64) <<< (Int32.toInt64 (8 : Int32) &&& 63)) ||| (y1 &&& (255 : Int32)).toInt64) <<< (Int32.toInt64 (8 : Int32) &&& 63)) ||| (y2 &&& (255 : Int32)).toInt64) <<< (Int32.toInt64 (8 : Int32) &&& 63)) ||| (y3 &&& (255 : Int32)).toInt64) <<< (Int32.toInt64 (8 : Int32) &&& 63)) ||| (y4 &&& (255 : Int32)).toInt64) <<< (Int32.toInt64 (8 : Int32) &&& 63)) ||| (y5 &&& (255 : Int32)).toInt64) <<< (Int32.toInt64 (8 : Int32) &&& 63)) ||| (y6 &&& (255 : Int32)).toInt64) <<< (Int32.toInt64 (8 : Int32) &&& 63)) ||| (y7 &&& (255 : Int32)).toInt64) <<< (Int32.toInt64 (8 : Int32) &&& 63)) ||| (y8 &&& (255 : Int32)).toInt64) &&& (4095 : Int64)) * (1000 : Int64)) / (4096 : Int64))) - (2208988800000000000 : Int64))) ∧ Fr n0 lC ∧ hP = h0) := by
  refine Own.enter (plainFor_of_name pn0) ?_
  intro p e s m below meth cc s₁ hx hby hml hown hnm hret hk hZ X0 e0
  have N0 := Fr.nil n0
  refine Own.start (ef_rm1 m b off) ?_
  refine Own.aloadN X0 hx (pc := 0) (hb hby d1_0) rfl rfl ?_
  refine Own.iloadN X0 hx (pc := 1) (hb hby d1_1) rfl ?_
  refine Own.callStatic X0 hx hZ (pc := 2) (y := (⟨"com/example/traceloom/traceloom/smf/Stcke", "tod", "([BI)J"⟩ : MethodName)) hown (Wd hw 5 rfl) (Wd hw 6 rfl) (Wd hw 3 rfl) (Wd hw 7 rfl) (by decide) 0 [(.ref b), (.int off)] [] (rm2 l Z a0 hw b off vs y1 y2 y3 y4 y5 y6 y7 y8 h0 n0 Z0 V_b hn1 hv1 hn2 hv2 hn3 hv3 hn4 hv4 hn5 hv5 hn6 hv6 hn7 hv7 hn8 hv8) (by decide) (by decide) e0 (by rw [hml]; rfl) pd1 rfl rfl (Nat.le_of_eq rfl) (hb hby d1_2) (by decide) (by decide) ?_
  intro T1 L1 v1 X1 hQ1
  obtain ⟨rfl, Nq1, e1⟩ := hQ1
  have N1 := Fr.app N0 Nq1
  show Own.Go p e below _ (T1.setTop (mkF m 5 #[.val (.ref b), .val (.int off), .unset, .unset, .unset, .unset, .unset, .unset] [(.long (((((((((((((((((0 : Int64) <<< (Int32.toInt64 (8 : Int32) &&& 63)) ||| (y1 &&& (255 : Int32)).toInt64) <<< (Int32.toInt64 (8 : Int32) &&& 63)) ||| (y2 &&& (255 : Int32)).toInt64) <<< (Int32.toInt64 (8 : Int32) &&& 63)) ||| (y3 &&& (255 : Int32)).toInt64) <<< (Int32.toInt64 (8 : Int32) &&& 63)) ||| (y4 &&& (255 : Int32)).toInt64) <<< (Int32.toInt64 (8 : Int32) &&& 63)) ||| (y5 &&& (255 : Int32)).toInt64) <<< (Int32.toInt64 (8 : Int32) &&& 63)) ||| (y6 &&& (255 : Int32)).toInt64) <<< (Int32.toInt64 (8 : Int32) &&& 63)) ||| (y7 &&& (255 : Int32)).toInt64) <<< (Int32.toInt64 (8 : Int32) &&& 63)) ||| (y8 &&& (255 : Int32)).toInt64))]))
  generalize qt2 : (((((((((((((((((0 : Int64) <<< (Int32.toInt64 (8 : Int32) &&& 63)) ||| (y1 &&& (255 : Int32)).toInt64) <<< (Int32.toInt64 (8 : Int32) &&& 63)) ||| (y2 &&& (255 : Int32)).toInt64) <<< (Int32.toInt64 (8 : Int32) &&& 63)) ||| (y3 &&& (255 : Int32)).toInt64) <<< (Int32.toInt64 (8 : Int32) &&& 63)) ||| (y4 &&& (255 : Int32)).toInt64) <<< (Int32.toInt64 (8 : Int32) &&& 63)) ||| (y5 &&& (255 : Int32)).toInt64) <<< (Int32.toInt64 (8 : Int32) &&& 63)) ||| (y6 &&& (255 : Int32)).toInt64) <<< (Int32.toInt64 (8 : Int32) &&& 63)) ||| (y7 &&& (255 : Int32)).toInt64) <<< (Int32.toInt64 (8 : Int32) &&& 63)) ||| (y8 &&& (255 : Int32)).toInt64) = t2
  refine Own.lstoreN X1 hx (pc := 5) #[.val (.ref b), .val (.int off), .val (.long t2), .second, .unset, .unset, .unset, .unset] (hb hby d1_5) rfl ?_
  refine Own.lloadN X1 hx (pc := 6) (hb hby d1_6) rfl ?_
  refine Own.bipush X1 hx (pc := 7) (12 : Int32) (hb hby d1_7) (by decide) ?_
  refine Own.lushr X1 hx (pc := 9) (hb hby d1_9) ?_
  refine Own.lstore X1 hx (pc := 10) #[.val (.ref b), .val (.int off), .val (.long t2), .second, .val (.long (XT.ushrL t2 (12 : Int32))), .second, .unset, .unset] (hb hby d1_10) rfl ?_
  refine Own.lloadN X1 hx (pc := 12) (hb hby d1_12) rfl ?_
  refine Own.ldc2J X1 hx hZ (pc := 13) hown (Wd hw 8 rfl) (hb hby d1_13) ?_
  refine Own.land X1 hx (pc := 16) (hb hby d1_16) ?_
  refine Own.lstore X1 hx (pc := 17) #[.val (.ref b), .val (.int off), .val (.long t2), .second, .val (.long (XT.ushrL t2 (12 : Int32))), .second, .val (.long (t2 &&& (4095 : Int64))), .second] (hb hby d1_17) rfl ?_
  refine Own.lload X1 hx (pc := 19) (hb hby d1_19) rfl ?_
  refine Own.ldc2J X1 hx hZ (pc := 21) hown (Wd hw 9 rfl) (hb hby d1_21) ?_
  refine Own.lmul X1 hx (pc := 24) (hb hby d1_24) ?_
  refine Own.lload X1 hx (pc := 25) (hb hby d1_25) rfl ?_
  refine Own.ldc2J X1 hx hZ (pc := 27) hown (Wd hw 9 rfl) (hb hby d1_27) ?_
  refine Own.lmul X1 hx (pc := 30) (hb hby d1_30) ?_
  refine Own.ldc2J X1 hx hZ (pc := 31) hown (Wd hw 10 rfl) (hb hby d1_31) ?_
  refine Own.ldiv X1 hx (pc := 34) (hb hby d1_34) (by decide) ?_
  refine Own.ladd X1 hx (pc := 35) (hb hby d1_35) ?_
  refine Own.ldc2J X1 hx hZ (pc := 36) hown (Wd hw 11 rfl) (hb hby d1_36) ?_
  refine Own.lsub X1 hx (pc := 39) (hb hby d1_39) ?_
  exact Own.lreturn X1 hx hk hret (hb hby d1_40) e1 ⟨by subst qt2; rfl, N1, rfl⟩ (by decide) (by decide)
theorem ef_law (m : MethodId) (v : Int64) (ep : Int32) (fl : Int64) (off : Int32) : entryFrame m #[(.long v), (.int ep), (.long fl), (.int off)] maxLocals = mkF m 0 #[.val (.long v), .second, .val (.int ep), .val (.long fl), .second, .val (.int off), .unset, .unset, .unset, .unset, .unset, .unset, .unset, .unset, .unset, .unset] [] := by first | (simp [entryFrame, mkF, argsToLocals, Value.category, maxLocals]; done) | rfl
theorem pn2 : plainName "com/example/traceloom/traceloom/smf/StckeUnixNanosPinLaw" = true := by first | (simp [plainName, overriddenIn]; done) | decide +kernel
set_option maxRecDepth 65536 in
set_option maxHeartbeats 400000000 in
theorem rm0 (l : Launch) (Z : State) (a0 : Array Value) (hw : ∀ d ∈ tables_1, d.before a0 Z = true) (v : Int64) (ep : Int32) (fl : Int64) (off : Int32) (h0 : Heap) (n0 : Nat) (Z0 : n0 ≤ h0.size) :
    Own.Ct l x code maxLocals ret tables_1 room_1 Z #[(.long v), (.int ep), (.long fl), (.int off)] h0 (fun v _ L => v = some (.int 1) ∧ Fr n0 L) := by
  refine Own.enter (plainFor_of_name pn2) ?_
  intro p e s m below meth cc s₁ hx hby hml0 hown hnm hret hk hZ X0 e0
  have hml : cc.maxLocals = 16 := hml0
  have N0 := Fr.nil n0
  refine Own.start (ef_law m v ep fl off) ?_
  refine Own.iload X0 hx (pc := 0) (hb hby at_0) rfl ?_
  refine Own.iconst X0 hx (pc := 2) (3 : Int32) (hb hby at_2) (by decide) ?_
  refine Own.iand X0 hx (pc := 3) (hb hby at_3) ?_
  generalize qo1 : (off &&& (3 : Int32)) = o1
  refine Own.istore X0 hx (pc := 4) #[.val (.long v), .second, .val (.int ep), .val (.long fl), .second, .val (.int off), .val (.int o1), .unset, .unset, .unset, .unset, .unset, .unset, .unset, .unset, .unset] (hb hby at_4) rfl ?_
  refine Own.bipush X0 hx (pc := 6) (20 : Int32) (hb hby at_6) (by decide) ?_
  refine Own.newarr X0 hx hZ (pc := 8) (aty := .byte) (Wd hw 0 rfl) e0 (hb hby at_8) (by decide) 20 20 (by decide) (by decide) (by decide) (by decide) (by decide) ?_
  intro T2 h2 b2 g2 X2 e2 Ex2 V_b2
  have ge_b2 : n0 ≤ b2 := g2 ▸ Z0
  have sz2 : n0 ≤ h2.size := Nat.le_trans Z0 Ex2.1
  replace V_b2 : Own.VArr Z h2 b2 .byte [(.int (0 : Int32)), (.int (0 : Int32)), (.int (0 : Int32)), (.int (0 : Int32)), (.int (0 : Int32)), (.int (0 : Int32)), (.int (0 : Int32)), (.int (0 : Int32)), (.int (0 : Int32)), (.int (0 : Int32)), (.int (0 : Int32)), (.int (0 : Int32)), (.int (0 : Int32)), (.int (0 : Int32)), (.int (0 : Int32)), (.int (0 : Int32)), (.int (0 : Int32)), (.int (0 : Int32)), (.int (0 : Int32)), (.int (0 : Int32))] := V_b2
  refine Own.astore X2 hx (pc := 10) #[.val (.long v), .second, .val (.int ep), .val (.long fl), .second, .val (.int off), .val (.int o1), .val (.ref b2), .unset, .unset, .unset, .unset, .unset, .unset, .unset, .unset] (hb hby at_10) rfl rfl ?_
  refine Own.aload X2 hx (pc := 12) (hb hby at_12) rfl rfl ?_
  refine Own.iconst X2 hx (pc := 14) (0 : Int32) (hb hby at_14) (by decide) ?_
  refine Own.lloadN X2 hx (pc := 15) (hb hby at_15) rfl ?_
  refine Own.l2i X2 hx (pc := 16) (hb hby at_16) ?_
  refine Own.i2b X2 hx (pc := 17) (hb hby at_17) ?_
  refine Own.bastore X2 hx hZ (pc := 18) e2 V_b2 0 (by decide) (by decide) (of_decide_eq_true rfl) N0 ge_b2 (hb hby at_18) ?_
  intro T3 h3 X3 e3 W3 N3 V_b2
  replace V_b2 : Own.VArr Z h3 b2 .byte [(.int fl.toInt32.toInt8.toInt32.toInt8.toInt32), (.int (0 : Int32)), (.int (0 : Int32)), (.int (0 : Int32)), (.int (0 : Int32)), (.int (0 : Int32)), (.int (0 : Int32)), (.int (0 : Int32)), (.int (0 : Int32)), (.int (0 : Int32)), (.int (0 : Int32)), (.int (0 : Int32)), (.int (0 : Int32)), (.int (0 : Int32)), (.int (0 : Int32)), (.int (0 : Int32)), (.int (0 : Int32)), (.int (0 : Int32)), (.int (0 : Int32)), (.int (0 : Int32))] := V_b2
  have sz3 : n0 ≤ h3.size := Nat.le_trans sz2 (Nat.le_of_eq (Wr.size W3).symm)
  refine Own.aload X3 hx (pc := 19) (hb hby at_19) rfl rfl ?_
  refine Own.iconst X3 hx (pc := 21) (1 : Int32) (hb hby at_21) (by decide) ?_
  refine Own.lloadN X3 hx (pc := 22) (hb hby at_22) rfl ?_
  refine Own.iconst X3 hx (pc := 23) (3 : Int32) (hb hby at_23) (by decide) ?_
  refine Own.lushr X3 hx (pc := 24) (hb hby at_24) ?_
  refine Own.l2i X3 hx (pc := 25) (hb hby at_25) ?_
  refine Own.i2b X3 hx (pc := 26) (hb hby at_26) ?_
  refine Own.bastore X3 hx hZ (pc := 27) e3 V_b2 1 (by decide) (by decide) (of_decide_eq_true rfl) N3 ge_b2 (hb hby at_27) ?_
  intro T4 h4 X4 e4 W4 N4 V_b2
  replace V_b2 : Own.VArr Z h4 b2 .byte [(.int fl.toInt32.toInt8.toInt32.toInt8.toInt32), (.int ((((XT.ushrL fl (3 : Int32)).toInt32).toInt8.toInt32).toInt8.toInt32)), (.int (0 : Int32)), (.int (0 : Int32)), (.int (0 : Int32)), (.int (0 : Int32)), (.int (0 : Int32)), (.int (0 : Int32)), (.int (0 : Int32)), (.int (0 : Int32)), (.int (0 : Int32)), (.int (0 : Int32)), (.int (0 : Int32)), (.int (0 : Int32)), (.int (0 : Int32)), (.int (0 : Int32)), (.int (0 : Int32)), (.int (0 : Int32)), (.int (0 : Int32)), (.int (0 : Int32))] := V_b2
  have sz4 : n0 ≤ h4.size := Nat.le_trans sz3 (Nat.le_of_eq (Wr.size W4).symm)
  refine Own.aload X4 hx (pc := 28) (hb hby at_28) rfl rfl ?_
  refine Own.iconst X4 hx (pc := 30) (2 : Int32) (hb hby at_30) (by decide) ?_
  refine Own.lloadN X4 hx (pc := 31) (hb hby at_31) rfl ?_
  refine Own.bipush X4 hx (pc := 32) (6 : Int32) (hb hby at_32) (by decide) ?_
  refine Own.lushr X4 hx (pc := 34) (hb hby at_34) ?_
  refine Own.l2i X4 hx (pc := 35) (hb hby at_35) ?_
  refine Own.i2b X4 hx (pc := 36) (hb hby at_36) ?_
  refine Own.bastore X4 hx hZ (pc := 37) e4 V_b2 2 (by decide) (by decide) (of_decide_eq_true rfl) N4 ge_b2 (hb hby at_37) ?_
  intro T5 h5 X5 e5 W5 N5 V_b2
  replace V_b2 : Own.VArr Z h5 b2 .byte [(.int fl.toInt32.toInt8.toInt32.toInt8.toInt32), (.int ((((XT.ushrL fl (3 : Int32)).toInt32).toInt8.toInt32).toInt8.toInt32)), (.int ((((XT.ushrL fl (6 : Int32)).toInt32).toInt8.toInt32).toInt8.toInt32)), (.int (0 : Int32)), (.int (0 : Int32)), (.int (0 : Int32)), (.int (0 : Int32)), (.int (0 : Int32)), (.int (0 : Int32)), (.int (0 : Int32)), (.int (0 : Int32)), (.int (0 : Int32)), (.int (0 : Int32)), (.int (0 : Int32)), (.int (0 : Int32)), (.int (0 : Int32)), (.int (0 : Int32)), (.int (0 : Int32)), (.int (0 : Int32)), (.int (0 : Int32))] := V_b2
  have sz5 : n0 ≤ h5.size := Nat.le_trans sz4 (Nat.le_of_eq (Wr.size W5).symm)
  refine Own.aload X5 hx (pc := 38) (hb hby at_38) rfl rfl ?_
  refine Own.iconst X5 hx (pc := 40) (3 : Int32) (hb hby at_40) (by decide) ?_
  refine Own.lloadN X5 hx (pc := 41) (hb hby at_41) rfl ?_
  refine Own.bipush X5 hx (pc := 42) (9 : Int32) (hb hby at_42) (by decide) ?_
  refine Own.lushr X5 hx (pc := 44) (hb hby at_44) ?_
  refine Own.l2i X5 hx (pc := 45) (hb hby at_45) ?_
  refine Own.i2b X5 hx (pc := 46) (hb hby at_46) ?_
  refine Own.bastore X5 hx hZ (pc := 47) e5 V_b2 3 (by decide) (by decide) (of_decide_eq_true rfl) N5 ge_b2 (hb hby at_47) ?_
  intro T6 h6 X6 e6 W6 N6 V_b2
  replace V_b2 : Own.VArr Z h6 b2 .byte [(.int fl.toInt32.toInt8.toInt32.toInt8.toInt32), (.int ((((XT.ushrL fl (3 : Int32)).toInt32).toInt8.toInt32).toInt8.toInt32)), (.int ((((XT.ushrL fl (6 : Int32)).toInt32).toInt8.toInt32).toInt8.toInt32)), (.int ((((XT.ushrL fl (9 : Int32)).toInt32).toInt8.toInt32).toInt8.toInt32)), (.int (0 : Int32)), (.int (0 : Int32)), (.int (0 : Int32)), (.int (0 : Int32)), (.int (0 : Int32)), (.int (0 : Int32)), (.int (0 : Int32)), (.int (0 : Int32)), (.int (0 : Int32)), (.int (0 : Int32)), (.int (0 : Int32)), (.int (0 : Int32)), (.int (0 : Int32)), (.int (0 : Int32)), (.int (0 : Int32)), (.int (0 : Int32))] := V_b2
  have sz6 : n0 ≤ h6.size := Nat.le_trans sz5 (Nat.le_of_eq (Wr.size W6).symm)
  refine Own.aload X6 hx (pc := 48) (hb hby at_48) rfl rfl ?_
  refine Own.iconst X6 hx (pc := 50) (4 : Int32) (hb hby at_50) (by decide) ?_
  refine Own.lloadN X6 hx (pc := 51) (hb hby at_51) rfl ?_
  refine Own.bipush X6 hx (pc := 52) (12 : Int32) (hb hby at_52) (by decide) ?_
  refine Own.lushr X6 hx (pc := 54) (hb hby at_54) ?_
  refine Own.l2i X6 hx (pc := 55) (hb hby at_55) ?_
  refine Own.i2b X6 hx (pc := 56) (hb hby at_56) ?_
  refine Own.bastore X6 hx hZ (pc := 57) e6 V_b2 4 (by decide) (by decide) (of_decide_eq_true rfl) N6 ge_b2 (hb hby at_57) ?_
  intro T7 h7 X7 e7 W7 N7 V_b2
  replace V_b2 : Own.VArr Z h7 b2 .byte [(.int fl.toInt32.toInt8.toInt32.toInt8.toInt32), (.int ((((XT.ushrL fl (3 : Int32)).toInt32).toInt8.toInt32).toInt8.toInt32)), (.int ((((XT.ushrL fl (6 : Int32)).toInt32).toInt8.toInt32).toInt8.toInt32)), (.int ((((XT.ushrL fl (9 : Int32)).toInt32).toInt8.toInt32).toInt8.toInt32)), (.int ((((XT.ushrL fl (12 : Int32)).toInt32).toInt8.toInt32).toInt8.toInt32)), (.int (0 : Int32)), (.int (0 : Int32)), (.int (0 : Int32)), (.int (0 : Int32)), (.int (0 : Int32)), (.int (0 : Int32)), (.int (0 : Int32)), (.int (0 : Int32)), (.int (0 : Int32)), (.int (0 : Int32)), (.int (0 : Int32)), (.int (0 : Int32)), (.int (0 : Int32)), (.int (0 : Int32)), (.int (0 : Int32))] := V_b2
  have sz7 : n0 ≤ h7.size := Nat.le_trans sz6 (Nat.le_of_eq (Wr.size W7).symm)
  refine Own.aload X7 hx (pc := 58) (hb hby at_58) rfl rfl ?_
  refine Own.iconst X7 hx (pc := 60) (5 : Int32) (hb hby at_60) (by decide) ?_
  refine Own.lloadN X7 hx (pc := 61) (hb hby at_61) rfl ?_
  refine Own.bipush X7 hx (pc := 62) (15 : Int32) (hb hby at_62) (by decide) ?_
  refine Own.lushr X7 hx (pc := 64) (hb hby at_64) ?_
  refine Own.l2i X7 hx (pc := 65) (hb hby at_65) ?_
  refine Own.i2b X7 hx (pc := 66) (hb hby at_66) ?_
  refine Own.bastore X7 hx hZ (pc := 67) e7 V_b2 5 (by decide) (by decide) (of_decide_eq_true rfl) N7 ge_b2 (hb hby at_67) ?_
  intro T8 h8 X8 e8 W8 N8 V_b2
  replace V_b2 : Own.VArr Z h8 b2 .byte [(.int fl.toInt32.toInt8.toInt32.toInt8.toInt32), (.int ((((XT.ushrL fl (3 : Int32)).toInt32).toInt8.toInt32).toInt8.toInt32)), (.int ((((XT.ushrL fl (6 : Int32)).toInt32).toInt8.toInt32).toInt8.toInt32)), (.int ((((XT.ushrL fl (9 : Int32)).toInt32).toInt8.toInt32).toInt8.toInt32)), (.int ((((XT.ushrL fl (12 : Int32)).toInt32).toInt8.toInt32).toInt8.toInt32)), (.int ((((XT.ushrL fl (15 : Int32)).toInt32).toInt8.toInt32).toInt8.toInt32)), (.int (0 : Int32)), (.int (0 : Int32)), (.int (0 : Int32)), (.int (0 : Int32)), (.int (0 : Int32)), (.int (0 : Int32)), (.int (0 : Int32)), (.int (0 : Int32)), (.int (0 : Int32)), (.int (0 : Int32)), (.int (0 : Int32)), (.int (0 : Int32)), (.int (0 : Int32)), (.int (0 : Int32))] := V_b2
  have sz8 : n0 ≤ h8.size := Nat.le_trans sz7 (Nat.le_of_eq (Wr.size W8).symm)
  refine Own.aload X8 hx (pc := 68) (hb hby at_68) rfl rfl ?_
  refine Own.bipush X8 hx (pc := 70) (6 : Int32) (hb hby at_70) (by decide) ?_
  refine Own.lloadN X8 hx (pc := 72) (hb hby at_72) rfl ?_
  refine Own.bipush X8 hx (pc := 73) (18 : Int32) (hb hby at_73) (by decide) ?_
  refine Own.lushr X8 hx (pc := 75) (hb hby at_75) ?_
  refine Own.l2i X8 hx (pc := 76) (hb hby at_76) ?_
  refine Own.i2b X8 hx (pc := 77) (hb hby at_77) ?_
  refine Own.bastore X8 hx hZ (pc := 78) e8 V_b2 6 (by decide) (by decide) (of_decide_eq_true rfl) N8 ge_b2 (hb hby at_78) ?_
  intro T9 h9 X9 e9 W9 N9 V_b2
  replace V_b2 : Own.VArr Z h9 b2 .byte [(.int fl.toInt32.toInt8.toInt32.toInt8.toInt32), (.int ((((XT.ushrL fl (3 : Int32)).toInt32).toInt8.toInt32).toInt8.toInt32)), (.int ((((XT.ushrL fl (6 : Int32)).toInt32).toInt8.toInt32).toInt8.toInt32)), (.int ((((XT.ushrL fl (9 : Int32)).toInt32).toInt8.toInt32).toInt8.toInt32)), (.int ((((XT.ushrL fl (12 : Int32)).toInt32).toInt8.toInt32).toInt8.toInt32)), (.int ((((XT.ushrL fl (15 : Int32)).toInt32).toInt8.toInt32).toInt8.toInt32)), (.int ((((XT.ushrL fl (18 : Int32)).toInt32).toInt8.toInt32).toInt8.toInt32)), (.int (0 : Int32)), (.int (0 : Int32)), (.int (0 : Int32)), (.int (0 : Int32)), (.int (0 : Int32)), (.int (0 : Int32)), (.int (0 : Int32)), (.int (0 : Int32)), (.int (0 : Int32)), (.int (0 : Int32)), (.int (0 : Int32)), (.int (0 : Int32)), (.int (0 : Int32))] := V_b2
  have sz9 : n0 ≤ h9.size := Nat.le_trans sz8 (Nat.le_of_eq (Wr.size W9).symm)
  refine Own.aload X9 hx (pc := 79) (hb hby at_79) rfl rfl ?_
  refine Own.bipush X9 hx (pc := 81) (7 : Int32) (hb hby at_81) (by decide) ?_
  refine Own.lloadN X9 hx (pc := 83) (hb hby at_83) rfl ?_
  refine Own.bipush X9 hx (pc := 84) (21 : Int32) (hb hby at_84) (by decide) ?_
  refine Own.lushr X9 hx (pc := 86) (hb hby at_86) ?_
  refine Own.l2i X9 hx (pc := 87) (hb hby at_87) ?_
  refine Own.i2b X9 hx (pc := 88) (hb hby at_88) ?_
  refine Own.bastore X9 hx hZ (pc := 89) e9 V_b2 7 (by decide) (by decide) (of_decide_eq_true rfl) N9 ge_b2 (hb hby at_89) ?_
  intro T10 h10 X10 e10 W10 N10 V_b2
  replace V_b2 : Own.VArr Z h10 b2 .byte [(.int fl.toInt32.toInt8.toInt32.toInt8.toInt32), (.int ((((XT.ushrL fl (3 : Int32)).toInt32).toInt8.toInt32).toInt8.toInt32)), (.int ((((XT.ushrL fl (6 : Int32)).toInt32).toInt8.toInt32).toInt8.toInt32)), (.int ((((XT.ushrL fl (9 : Int32)).toInt32).toInt8.toInt32).toInt8.toInt32)), (.int ((((XT.ushrL fl (12 : Int32)).toInt32).toInt8.toInt32).toInt8.toInt32)), (.int ((((XT.ushrL fl (15 : Int32)).toInt32).toInt8.toInt32).toInt8.toInt32)), (.int ((((XT.ushrL fl (18 : Int32)).toInt32).toInt8.toInt32).toInt8.toInt32)), (.int ((((XT.ushrL fl (21 : Int32)).toInt32).toInt8.toInt32).toInt8.toInt32)), (.int (0 : Int32)), (.int (0 : Int32)), (.int (0 : Int32)), (.int (0 : Int32)), (.int (0 : Int32)), (.int (0 : Int32)), (.int (0 : Int32)), (.int (0 : Int32)), (.int (0 : Int32)), (.int (0 : Int32)), (.int (0 : Int32)), (.int (0 : Int32))] := V_b2
  have sz10 : n0 ≤ h10.size := Nat.le_trans sz9 (Nat.le_of_eq (Wr.size W10).symm)
  refine Own.aload X10 hx (pc := 90) (hb hby at_90) rfl rfl ?_
  refine Own.bipush X10 hx (pc := 92) (8 : Int32) (hb hby at_92) (by decide) ?_
  refine Own.lloadN X10 hx (pc := 94) (hb hby at_94) rfl ?_
  refine Own.bipush X10 hx (pc := 95) (24 : Int32) (hb hby at_95) (by decide) ?_
  refine Own.lushr X10 hx (pc := 97) (hb hby at_97) ?_
  refine Own.l2i X10 hx (pc := 98) (hb hby at_98) ?_
  refine Own.i2b X10 hx (pc := 99) (hb hby at_99) ?_
  refine Own.bastore X10 hx hZ (pc := 100) e10 V_b2 8 (by decide) (by decide) (of_decide_eq_true rfl) N10 ge_b2 (hb hby at_100) ?_
  intro T11 h11 X11 e11 W11 N11 V_b2
  replace V_b2 : Own.VArr Z h11 b2 .byte [(.int fl.toInt32.toInt8.toInt32.toInt8.toInt32), (.int ((((XT.ushrL fl (3 : Int32)).toInt32).toInt8.toInt32).toInt8.toInt32)), (.int ((((XT.ushrL fl (6 : Int32)).toInt32).toInt8.toInt32).toInt8.toInt32)), (.int ((((XT.ushrL fl (9 : Int32)).toInt32).toInt8.toInt32).toInt8.toInt32)), (.int ((((XT.ushrL fl (12 : Int32)).toInt32).toInt8.toInt32).toInt8.toInt32)), (.int ((((XT.ushrL fl (15 : Int32)).toInt32).toInt8.toInt32).toInt8.toInt32)), (.int ((((XT.ushrL fl (18 : Int32)).toInt32).toInt8.toInt32).toInt8.toInt32)), (.int ((((XT.ushrL fl (21 : Int32)).toInt32).toInt8.toInt32).toInt8.toInt32)), (.int ((((XT.ushrL fl (24 : Int32)).toInt32).toInt8.toInt32).toInt8.toInt32)), (.int (0 : Int32)), (.int (0 : Int32)), (.int (0 : Int32)), (.int (0 : Int32)), (.int (0 : Int32)), (.int (0 : Int32)), (.int (0 : Int32)), (.int (0 : Int32)), (.int (0 : Int32)), (.int (0 : Int32)), (.int (0 : Int32))] := V_b2
  have sz11 : n0 ≤ h11.size := Nat.le_trans sz10 (Nat.le_of_eq (Wr.size W11).symm)
  refine Own.aload X11 hx (pc := 101) (hb hby at_101) rfl rfl ?_
  refine Own.bipush X11 hx (pc := 103) (9 : Int32) (hb hby at_103) (by decide) ?_
  refine Own.lloadN X11 hx (pc := 105) (hb hby at_105) rfl ?_
  refine Own.bipush X11 hx (pc := 106) (27 : Int32) (hb hby at_106) (by decide) ?_
  refine Own.lushr X11 hx (pc := 108) (hb hby at_108) ?_
  refine Own.l2i X11 hx (pc := 109) (hb hby at_109) ?_
  refine Own.i2b X11 hx (pc := 110) (hb hby at_110) ?_
  refine Own.bastore X11 hx hZ (pc := 111) e11 V_b2 9 (by decide) (by decide) (of_decide_eq_true rfl) N11 ge_b2 (hb hby at_111) ?_
  intro T12 h12 X12 e12 W12 N12 V_b2
  replace V_b2 : Own.VArr Z h12 b2 .byte [(.int fl.toInt32.toInt8.toInt32.toInt8.toInt32), (.int ((((XT.ushrL fl (3 : Int32)).toInt32).toInt8.toInt32).toInt8.toInt32)), (.int ((((XT.ushrL fl (6 : Int32)).toInt32).toInt8.toInt32).toInt8.toInt32)), (.int ((((XT.ushrL fl (9 : Int32)).toInt32).toInt8.toInt32).toInt8.toInt32)), (.int ((((XT.ushrL fl (12 : Int32)).toInt32).toInt8.toInt32).toInt8.toInt32)), (.int ((((XT.ushrL fl (15 : Int32)).toInt32).toInt8.toInt32).toInt8.toInt32)), (.int ((((XT.ushrL fl (18 : Int32)).toInt32).toInt8.toInt32).toInt8.toInt32)), (.int ((((XT.ushrL fl (21 : Int32)).toInt32).toInt8.toInt32).toInt8.toInt32)), (.int ((((XT.ushrL fl (24 : Int32)).toInt32).toInt8.toInt32).toInt8.toInt32)), (.int ((((XT.ushrL fl (27 : Int32)).toInt32).toInt8.toInt32).toInt8.toInt32)), (.int (0 : Int32)), (.int (0 : Int32)), (.int (0 : Int32)), (.int (0 : Int32)), (.int (0 : Int32)), (.int (0 : Int32)), (.int (0 : Int32)), (.int (0 : Int32)), (.int (0 : Int32)), (.int (0 : Int32))] := V_b2
  have sz12 : n0 ≤ h12.size := Nat.le_trans sz11 (Nat.le_of_eq (Wr.size W12).symm)
  refine Own.aload X12 hx (pc := 112) (hb hby at_112) rfl rfl ?_
  refine Own.bipush X12 hx (pc := 114) (10 : Int32) (hb hby at_114) (by decide) ?_
  refine Own.lloadN X12 hx (pc := 116) (hb hby at_116) rfl ?_
  refine Own.bipush X12 hx (pc := 117) (30 : Int32) (hb hby at_117) (by decide) ?_
  refine Own.lushr X12 hx (pc := 119) (hb hby at_119) ?_
  refine Own.l2i X12 hx (pc := 120) (hb hby at_120) ?_
  refine Own.i2b X12 hx (pc := 121) (hb hby at_121) ?_
  refine Own.bastore X12 hx hZ (pc := 122) e12 V_b2 10 (by decide) (by decide) (of_decide_eq_true rfl) N12 ge_b2 (hb hby at_122) ?_
  intro T13 h13 X13 e13 W13 N13 V_b2
  replace V_b2 : Own.VArr Z h13 b2 .byte [(.int fl.toInt32.toInt8.toInt32.toInt8.toInt32), (.int ((((XT.ushrL fl (3 : Int32)).toInt32).toInt8.toInt32).toInt8.toInt32)), (.int ((((XT.ushrL fl (6 : Int32)).toInt32).toInt8.toInt32).toInt8.toInt32)), (.int ((((XT.ushrL fl (9 : Int32)).toInt32).toInt8.toInt32).toInt8.toInt32)), (.int ((((XT.ushrL fl (12 : Int32)).toInt32).toInt8.toInt32).toInt8.toInt32)), (.int ((((XT.ushrL fl (15 : Int32)).toInt32).toInt8.toInt32).toInt8.toInt32)), (.int ((((XT.ushrL fl (18 : Int32)).toInt32).toInt8.toInt32).toInt8.toInt32)), (.int ((((XT.ushrL fl (21 : Int32)).toInt32).toInt8.toInt32).toInt8.toInt32)), (.int ((((XT.ushrL fl (24 : Int32)).toInt32).toInt8.toInt32).toInt8.toInt32)), (.int ((((XT.ushrL fl (27 : Int32)).toInt32).toInt8.toInt32).toInt8.toInt32)), (.int ((((XT.ushrL fl (30 : Int32)).toInt32).toInt8.toInt32).toInt8.toInt32)), (.int (0 : Int32)), (.int (0 : Int32)), (.int (0 : Int32)), (.int (0 : Int32)), (.int (0 : Int32)), (.int (0 : Int32)), (.int (0 : Int32)), (.int (0 : Int32)), (.int (0 : Int32))] := V_b2
  have sz13 : n0 ≤ h13.size := Nat.le_trans sz12 (Nat.le_of_eq (Wr.size W13).symm)
  refine Own.aload X13 hx (pc := 123) (hb hby at_123) rfl rfl ?_
  refine Own.bipush X13 hx (pc := 125) (11 : Int32) (hb hby at_125) (by decide) ?_
  refine Own.lloadN X13 hx (pc := 127) (hb hby at_127) rfl ?_
  refine Own.bipush X13 hx (pc := 128) (33 : Int32) (hb hby at_128) (by decide) ?_
  refine Own.lushr X13 hx (pc := 130) (hb hby at_130) ?_
  refine Own.l2i X13 hx (pc := 131) (hb hby at_131) ?_
  refine Own.i2b X13 hx (pc := 132) (hb hby at_132) ?_
  refine Own.bastore X13 hx hZ (pc := 133) e13 V_b2 11 (by decide) (by decide) (of_decide_eq_true rfl) N13 ge_b2 (hb hby at_133) ?_
  intro T14 h14 X14 e14 W14 N14 V_b2
  replace V_b2 : Own.VArr Z h14 b2 .byte [(.int fl.toInt32.toInt8.toInt32.toInt8.toInt32), (.int ((((XT.ushrL fl (3 : Int32)).toInt32).toInt8.toInt32).toInt8.toInt32)), (.int ((((XT.ushrL fl (6 : Int32)).toInt32).toInt8.toInt32).toInt8.toInt32)), (.int ((((XT.ushrL fl (9 : Int32)).toInt32).toInt8.toInt32).toInt8.toInt32)), (.int ((((XT.ushrL fl (12 : Int32)).toInt32).toInt8.toInt32).toInt8.toInt32)), (.int ((((XT.ushrL fl (15 : Int32)).toInt32).toInt8.toInt32).toInt8.toInt32)), (.int ((((XT.ushrL fl (18 : Int32)).toInt32).toInt8.toInt32).toInt8.toInt32)), (.int ((((XT.ushrL fl (21 : Int32)).toInt32).toInt8.toInt32).toInt8.toInt32)), (.int ((((XT.ushrL fl (24 : Int32)).toInt32).toInt8.toInt32).toInt8.toInt32)), (.int ((((XT.ushrL fl (27 : Int32)).toInt32).toInt8.toInt32).toInt8.toInt32)), (.int ((((XT.ushrL fl (30 : Int32)).toInt32).toInt8.toInt32).toInt8.toInt32)), (.int ((((XT.ushrL fl (33 : Int32)).toInt32).toInt8.toInt32).toInt8.toInt32)), (.int (0 : Int32)), (.int (0 : Int32)), (.int (0 : Int32)), (.int (0 : Int32)), (.int (0 : Int32)), (.int (0 : Int32)), (.int (0 : Int32)), (.int (0 : Int32))] := V_b2
  have sz14 : n0 ≤ h14.size := Nat.le_trans sz13 (Nat.le_of_eq (Wr.size W14).symm)
  refine Own.aload X14 hx (pc := 134) (hb hby at_134) rfl rfl ?_
  refine Own.bipush X14 hx (pc := 136) (12 : Int32) (hb hby at_136) (by decide) ?_
  refine Own.lloadN X14 hx (pc := 138) (hb hby at_138) rfl ?_
  refine Own.bipush X14 hx (pc := 139) (36 : Int32) (hb hby at_139) (by decide) ?_
  refine Own.lushr X14 hx (pc := 141) (hb hby at_141) ?_
  refine Own.l2i X14 hx (pc := 142) (hb hby at_142) ?_
  refine Own.i2b X14 hx (pc := 143) (hb hby at_143) ?_
  refine Own.bastore X14 hx hZ (pc := 144) e14 V_b2 12 (by decide) (by decide) (of_decide_eq_true rfl) N14 ge_b2 (hb hby at_144) ?_
  intro T15 h15 X15 e15 W15 N15 V_b2
  replace V_b2 : Own.VArr Z h15 b2 .byte [(.int fl.toInt32.toInt8.toInt32.toInt8.toInt32), (.int ((((XT.ushrL fl (3 : Int32)).toInt32).toInt8.toInt32).toInt8.toInt32)), (.int ((((XT.ushrL fl (6 : Int32)).toInt32).toInt8.toInt32).toInt8.toInt32)), (.int ((((XT.ushrL fl (9 : Int32)).toInt32).toInt8.toInt32).toInt8.toInt32)), (.int ((((XT.ushrL fl (12 : Int32)).toInt32).toInt8.toInt32).toInt8.toInt32)), (.int ((((XT.ushrL fl (15 : Int32)).toInt32).toInt8.toInt32).toInt8.toInt32)), (.int ((((XT.ushrL fl (18 : Int32)).toInt32).toInt8.toInt32).toInt8.toInt32)), (.int ((((XT.ushrL fl (21 : Int32)).toInt32).toInt8.toInt32).toInt8.toInt32)), (.int ((((XT.ushrL fl (24 : Int32)).toInt32).toInt8.toInt32).toInt8.toInt32)), (.int ((((XT.ushrL fl (27 : Int32)).toInt32).toInt8.toInt32).toInt8.toInt32)), (.int ((((XT.ushrL fl (30 : Int32)).toInt32).toInt8.toInt32).toInt8.toInt32)), (.int ((((XT.ushrL fl (33 : Int32)).toInt32).toInt8.toInt32).toInt8.toInt32)), (.int ((((XT.ushrL fl (36 : Int32)).toInt32).toInt8.toInt32).toInt8.toInt32)), (.int (0 : Int32)), (.int (0 : Int32)), (.int (0 : Int32)), (.int (0 : Int32)), (.int (0 : Int32)), (.int (0 : Int32)), (.int (0 : Int32))] := V_b2
  have sz15 : n0 ≤ h15.size := Nat.le_trans sz14 (Nat.le_of_eq (Wr.size W15).symm)
  refine Own.aload X15 hx (pc := 145) (hb hby at_145) rfl rfl ?_
  refine Own.bipush X15 hx (pc := 147) (13 : Int32) (hb hby at_147) (by decide) ?_
  refine Own.lloadN X15 hx (pc := 149) (hb hby at_149) rfl ?_
  refine Own.bipush X15 hx (pc := 150) (39 : Int32) (hb hby at_150) (by decide) ?_
  refine Own.lushr X15 hx (pc := 152) (hb hby at_152) ?_
  refine Own.l2i X15 hx (pc := 153) (hb hby at_153) ?_
  refine Own.i2b X15 hx (pc := 154) (hb hby at_154) ?_
  refine Own.bastore X15 hx hZ (pc := 155) e15 V_b2 13 (by decide) (by decide) (of_decide_eq_true rfl) N15 ge_b2 (hb hby at_155) ?_
  intro T16 h16 X16 e16 W16 N16 V_b2
  replace V_b2 : Own.VArr Z h16 b2 .byte [(.int fl.toInt32.toInt8.toInt32.toInt8.toInt32), (.int ((((XT.ushrL fl (3 : Int32)).toInt32).toInt8.toInt32).toInt8.toInt32)), (.int ((((XT.ushrL fl (6 : Int32)).toInt32).toInt8.toInt32).toInt8.toInt32)), (.int ((((XT.ushrL fl (9 : Int32)).toInt32).toInt8.toInt32).toInt8.toInt32)), (.int ((((XT.ushrL fl (12 : Int32)).toInt32).toInt8.toInt32).toInt8.toInt32)), (.int ((((XT.ushrL fl (15 : Int32)).toInt32).toInt8.toInt32).toInt8.toInt32)), (.int ((((XT.ushrL fl (18 : Int32)).toInt32).toInt8.toInt32).toInt8.toInt32)), (.int ((((XT.ushrL fl (21 : Int32)).toInt32).toInt8.toInt32).toInt8.toInt32)), (.int ((((XT.ushrL fl (24 : Int32)).toInt32).toInt8.toInt32).toInt8.toInt32)), (.int ((((XT.ushrL fl (27 : Int32)).toInt32).toInt8.toInt32).toInt8.toInt32)), (.int ((((XT.ushrL fl (30 : Int32)).toInt32).toInt8.toInt32).toInt8.toInt32)), (.int ((((XT.ushrL fl (33 : Int32)).toInt32).toInt8.toInt32).toInt8.toInt32)), (.int ((((XT.ushrL fl (36 : Int32)).toInt32).toInt8.toInt32).toInt8.toInt32)), (.int ((((XT.ushrL fl (39 : Int32)).toInt32).toInt8.toInt32).toInt8.toInt32)), (.int (0 : Int32)), (.int (0 : Int32)), (.int (0 : Int32)), (.int (0 : Int32)), (.int (0 : Int32)), (.int (0 : Int32))] := V_b2
  have sz16 : n0 ≤ h16.size := Nat.le_trans sz15 (Nat.le_of_eq (Wr.size W16).symm)
  refine Own.aload X16 hx (pc := 156) (hb hby at_156) rfl rfl ?_
  refine Own.bipush X16 hx (pc := 158) (14 : Int32) (hb hby at_158) (by decide) ?_
  refine Own.lloadN X16 hx (pc := 160) (hb hby at_160) rfl ?_
  refine Own.bipush X16 hx (pc := 161) (42 : Int32) (hb hby at_161) (by decide) ?_
  refine Own.lushr X16 hx (pc := 163) (hb hby at_163) ?_
  refine Own.l2i X16 hx (pc := 164) (hb hby at_164) ?_
  refine Own.i2b X16 hx (pc := 165) (hb hby at_165) ?_
  refine Own.bastore X16 hx hZ (pc := 166) e16 V_b2 14 (by decide) (by decide) (of_decide_eq_true rfl) N16 ge_b2 (hb hby at_166) ?_
  intro T17 h17 X17 e17 W17 N17 V_b2
  replace V_b2 : Own.VArr Z h17 b2 .byte [(.int fl.toInt32.toInt8.toInt32.toInt8.toInt32), (.int ((((XT.ushrL fl (3 : Int32)).toInt32).toInt8.toInt32).toInt8.toInt32)), (.int ((((XT.ushrL fl (6 : Int32)).toInt32).toInt8.toInt32).toInt8.toInt32)), (.int ((((XT.ushrL fl (9 : Int32)).toInt32).toInt8.toInt32).toInt8.toInt32)), (.int ((((XT.ushrL fl (12 : Int32)).toInt32).toInt8.toInt32).toInt8.toInt32)), (.int ((((XT.ushrL fl (15 : Int32)).toInt32).toInt8.toInt32).toInt8.toInt32)), (.int ((((XT.ushrL fl (18 : Int32)).toInt32).toInt8.toInt32).toInt8.toInt32)), (.int ((((XT.ushrL fl (21 : Int32)).toInt32).toInt8.toInt32).toInt8.toInt32)), (.int ((((XT.ushrL fl (24 : Int32)).toInt32).toInt8.toInt32).toInt8.toInt32)), (.int ((((XT.ushrL fl (27 : Int32)).toInt32).toInt8.toInt32).toInt8.toInt32)), (.int ((((XT.ushrL fl (30 : Int32)).toInt32).toInt8.toInt32).toInt8.toInt32)), (.int ((((XT.ushrL fl (33 : Int32)).toInt32).toInt8.toInt32).toInt8.toInt32)), (.int ((((XT.ushrL fl (36 : Int32)).toInt32).toInt8.toInt32).toInt8.toInt32)), (.int ((((XT.ushrL fl (39 : Int32)).toInt32).toInt8.toInt32).toInt8.toInt32)), (.int ((((XT.ushrL fl (42 : Int32)).toInt32).toInt8.toInt32).toInt8.toInt32)), (.int (0 : Int32)), (.int (0 : Int32)), (.int (0 : Int32)), (.int (0 : Int32)), (.int (0 : Int32))] := V_b2
  have sz17 : n0 ≤ h17.size := Nat.le_trans sz16 (Nat.le_of_eq (Wr.size W17).symm)
  refine Own.aload X17 hx (pc := 167) (hb hby at_167) rfl rfl ?_
  refine Own.bipush X17 hx (pc := 169) (15 : Int32) (hb hby at_169) (by decide) ?_
  refine Own.lloadN X17 hx (pc := 171) (hb hby at_171) rfl ?_
  refine Own.bipush X17 hx (pc := 172) (45 : Int32) (hb hby at_172) (by decide) ?_
  refine Own.lushr X17 hx (pc := 174) (hb hby at_174) ?_
  refine Own.l2i X17 hx (pc := 175) (hb hby at_175) ?_
  refine Own.i2b X17 hx (pc := 176) (hb hby at_176) ?_
  refine Own.bastore X17 hx hZ (pc := 177) e17 V_b2 15 (by decide) (by decide) (of_decide_eq_true rfl) N17 ge_b2 (hb hby at_177) ?_
  intro T18 h18 X18 e18 W18 N18 V_b2
  replace V_b2 : Own.VArr Z h18 b2 .byte [(.int fl.toInt32.toInt8.toInt32.toInt8.toInt32), (.int ((((XT.ushrL fl (3 : Int32)).toInt32).toInt8.toInt32).toInt8.toInt32)), (.int ((((XT.ushrL fl (6 : Int32)).toInt32).toInt8.toInt32).toInt8.toInt32)), (.int ((((XT.ushrL fl (9 : Int32)).toInt32).toInt8.toInt32).toInt8.toInt32)), (.int ((((XT.ushrL fl (12 : Int32)).toInt32).toInt8.toInt32).toInt8.toInt32)), (.int ((((XT.ushrL fl (15 : Int32)).toInt32).toInt8.toInt32).toInt8.toInt32)), (.int ((((XT.ushrL fl (18 : Int32)).toInt32).toInt8.toInt32).toInt8.toInt32)), (.int ((((XT.ushrL fl (21 : Int32)).toInt32).toInt8.toInt32).toInt8.toInt32)), (.int ((((XT.ushrL fl (24 : Int32)).toInt32).toInt8.toInt32).toInt8.toInt32)), (.int ((((XT.ushrL fl (27 : Int32)).toInt32).toInt8.toInt32).toInt8.toInt32)), (.int ((((XT.ushrL fl (30 : Int32)).toInt32).toInt8.toInt32).toInt8.toInt32)), (.int ((((XT.ushrL fl (33 : Int32)).toInt32).toInt8.toInt32).toInt8.toInt32)), (.int ((((XT.ushrL fl (36 : Int32)).toInt32).toInt8.toInt32).toInt8.toInt32)), (.int ((((XT.ushrL fl (39 : Int32)).toInt32).toInt8.toInt32).toInt8.toInt32)), (.int ((((XT.ushrL fl (42 : Int32)).toInt32).toInt8.toInt32).toInt8.toInt32)), (.int ((((XT.ushrL fl (45 : Int32)).toInt32).toInt8.toInt32).toInt8.toInt32)), (.int (0 : Int32)), (.int (0 : Int32)), (.int (0 : Int32)), (.int (0 : Int32))] := V_b2
  have sz18 : n0 ≤ h18.size := Nat.le_trans sz17 (Nat.le_of_eq (Wr.size W18).symm)
  refine Own.aload X18 hx (pc := 178) (hb hby at_178) rfl rfl ?_
  refine Own.bipush X18 hx (pc := 180) (16 : Int32) (hb hby at_180) (by decide) ?_
  refine Own.lloadN X18 hx (pc := 182) (hb hby at_182) rfl ?_
  refine Own.bipush X18 hx (pc := 183) (48 : Int32) (hb hby at_183) (by decide) ?_
  refine Own.lushr X18 hx (pc := 185) (hb hby at_185) ?_
  refine Own.l2i X18 hx (pc := 186) (hb hby at_186) ?_
  refine Own.i2b X18 hx (pc := 187) (hb hby at_187) ?_
  refine Own.bastore X18 hx hZ (pc := 188) e18 V_b2 16 (by decide) (by decide) (of_decide_eq_true rfl) N18 ge_b2 (hb hby at_188) ?_
  intro T19 h19 X19 e19 W19 N19 V_b2
  replace V_b2 : Own.VArr Z h19 b2 .byte [(.int fl.toInt32.toInt8.toInt32.toInt8.toInt32), (.int ((((XT.ushrL fl (3 : Int32)).toInt32).toInt8.toInt32).toInt8.toInt32)), (.int ((((XT.ushrL fl (6 : Int32)).toInt32).toInt8.toInt32).toInt8.toInt32)), (.int ((((XT.ushrL fl (9 : Int32)).toInt32).toInt8.toInt32).toInt8.toInt32)), (.int ((((XT.ushrL fl (12 : Int32)).toInt32).toInt8.toInt32).toInt8.toInt32)), (.int ((((XT.ushrL fl (15 : Int32)).toInt32).toInt8.toInt32).toInt8.toInt32)), (.int ((((XT.ushrL fl (18 : Int32)).toInt32).toInt8.toInt32).toInt8.toInt32)), (.int ((((XT.ushrL fl (21 : Int32)).toInt32).toInt8.toInt32).toInt8.toInt32)), (.int ((((XT.ushrL fl (24 : Int32)).toInt32).toInt8.toInt32).toInt8.toInt32)), (.int ((((XT.ushrL fl (27 : Int32)).toInt32).toInt8.toInt32).toInt8.toInt32)), (.int ((((XT.ushrL fl (30 : Int32)).toInt32).toInt8.toInt32).toInt8.toInt32)), (.int ((((XT.ushrL fl (33 : Int32)).toInt32).toInt8.toInt32).toInt8.toInt32)), (.int ((((XT.ushrL fl (36 : Int32)).toInt32).toInt8.toInt32).toInt8.toInt32)), (.int ((((XT.ushrL fl (39 : Int32)).toInt32).toInt8.toInt32).toInt8.toInt32)), (.int ((((XT.ushrL fl (42 : Int32)).toInt32).toInt8.toInt32).toInt8.toInt32)), (.int ((((XT.ushrL fl (45 : Int32)).toInt32).toInt8.toInt32).toInt8.toInt32)), (.int ((((XT.ushrL fl (48 : Int32)).toInt32).toInt8.toInt32).toInt8.toInt32)), (.int (0 : Int32)), (.int (0 : Int32)), (.int (0 : Int32))] := V_b2
  have sz19 : n0 ≤ h19.size := Nat.le_trans sz18 (Nat.le_of_eq (Wr.size W19).symm)
  refine Own.aload X19 hx (pc := 189) (hb hby at_189) rfl rfl ?_
  refine Own.bipush X19 hx (pc := 191) (17 : Int32) (hb hby at_191) (by decide) ?_
  refine Own.lloadN X19 hx (pc := 193) (hb hby at_193) rfl ?_
  refine Own.bipush X19 hx (pc := 194) (51 : Int32) (hb hby at_194) (by decide) ?_
  refine Own.lushr X19 hx (pc := 196) (hb hby at_196) ?_
  refine Own.l2i X19 hx (pc := 197) (hb hby at_197) ?_
  refine Own.i2b X19 hx (pc := 198) (hb hby at_198) ?_
  refine Own.bastore X19 hx hZ (pc := 199) e19 V_b2 17 (by decide) (by decide) (of_decide_eq_true rfl) N19 ge_b2 (hb hby at_199) ?_
  intro T20 h20 X20 e20 W20 N20 V_b2
  replace V_b2 : Own.VArr Z h20 b2 .byte [(.int fl.toInt32.toInt8.toInt32.toInt8.toInt32), (.int ((((XT.ushrL fl (3 : Int32)).toInt32).toInt8.toInt32).toInt8.toInt32)), (.int ((((XT.ushrL fl (6 : Int32)).toInt32).toInt8.toInt32).toInt8.toInt32)), (.int ((((XT.ushrL fl (9 : Int32)).toInt32).toInt8.toInt32).toInt8.toInt32)), (.int ((((XT.ushrL fl (12 : Int32)).toInt32).toInt8.toInt32).toInt8.toInt32)), (.int ((((XT.ushrL fl (15 : Int32)).toInt32).toInt8.toInt32).toInt8.toInt32)), (.int ((((XT.ushrL fl (18 : Int32)).toInt32).toInt8.toInt32).toInt8.toInt32)), (.int ((((XT.ushrL fl (21 : Int32)).toInt32).toInt8.toInt32).toInt8.toInt32)), (.int ((((XT.ushrL fl (24 : Int32)).toInt32).toInt8.toInt32).toInt8.toInt32)), (.int ((((XT.ushrL fl (27 : Int32)).toInt32).toInt8.toInt32).toInt8.toInt32)), (.int ((((XT.ushrL fl (30 : Int32)).toInt32).toInt8.toInt32).toInt8.toInt32)), (.int ((((XT.ushrL fl (33 : Int32)).toInt32).toInt8.toInt32).toInt8.toInt32)), (.int ((((XT.ushrL fl (36 : Int32)).toInt32).toInt8.toInt32).toInt8.toInt32)), (.int ((((XT.ushrL fl (39 : Int32)).toInt32).toInt8.toInt32).toInt8.toInt32)), (.int ((((XT.ushrL fl (42 : Int32)).toInt32).toInt8.toInt32).toInt8.toInt32)), (.int ((((XT.ushrL fl (45 : Int32)).toInt32).toInt8.toInt32).toInt8.toInt32)), (.int ((((XT.ushrL fl (48 : Int32)).toInt32).toInt8.toInt32).toInt8.toInt32)), (.int ((((XT.ushrL fl (51 : Int32)).toInt32).toInt8.toInt32).toInt8.toInt32)), (.int (0 : Int32)), (.int (0 : Int32))] := V_b2
  have sz20 : n0 ≤ h20.size := Nat.le_trans sz19 (Nat.le_of_eq (Wr.size W20).symm)
  refine Own.aload X20 hx (pc := 200) (hb hby at_200) rfl rfl ?_
  refine Own.bipush X20 hx (pc := 202) (18 : Int32) (hb hby at_202) (by decide) ?_
  refine Own.lloadN X20 hx (pc := 204) (hb hby at_204) rfl ?_
  refine Own.bipush X20 hx (pc := 205) (54 : Int32) (hb hby at_205) (by decide) ?_
  refine Own.lushr X20 hx (pc := 207) (hb hby at_207) ?_
  refine Own.l2i X20 hx (pc := 208) (hb hby at_208) ?_
  refine Own.i2b X20 hx (pc := 209) (hb hby at_209) ?_
  refine Own.bastore X20 hx hZ (pc := 210) e20 V_b2 18 (by decide) (by decide) (of_decide_eq_true rfl) N20 ge_b2 (hb hby at_210) ?_
  intro T21 h21 X21 e21 W21 N21 V_b2
  replace V_b2 : Own.VArr Z h21 b2 .byte [(.int fl.toInt32.toInt8.toInt32.toInt8.toInt32), (.int ((((XT.ushrL fl (3 : Int32)).toInt32).toInt8.toInt32).toInt8.toInt32)), (.int ((((XT.ushrL fl (6 : Int32)).toInt32).toInt8.toInt32).toInt8.toInt32)), (.int ((((XT.ushrL fl (9 : Int32)).toInt32).toInt8.toInt32).toInt8.toInt32)), (.int ((((XT.ushrL fl (12 : Int32)).toInt32).toInt8.toInt32).toInt8.toInt32)), (.int ((((XT.ushrL fl (15 : Int32)).toInt32).toInt8.toInt32).toInt8.toInt32)), (.int ((((XT.ushrL fl (18 : Int32)).toInt32).toInt8.toInt32).toInt8.toInt32)), (.int ((((XT.ushrL fl (21 : Int32)).toInt32).toInt8.toInt32).toInt8.toInt32)), (.int ((((XT.ushrL fl (24 : Int32)).toInt32).toInt8.toInt32).toInt8.toInt32)), (.int ((((XT.ushrL fl (27 : Int32)).toInt32).toInt8.toInt32).toInt8.toInt32)), (.int ((((XT.ushrL fl (30 : Int32)).toInt32).toInt8.toInt32).toInt8.toInt32)), (.int ((((XT.ushrL fl (33 : Int32)).toInt32).toInt8.toInt32).toInt8.toInt32)), (.int ((((XT.ushrL fl (36 : Int32)).toInt32).toInt8.toInt32).toInt8.toInt32)), (.int ((((XT.ushrL fl (39 : Int32)).toInt32).toInt8.toInt32).toInt8.toInt32)), (.int ((((XT.ushrL fl (42 : Int32)).toInt32).toInt8.toInt32).toInt8.toInt32)), (.int ((((XT.ushrL fl (45 : Int32)).toInt32).toInt8.toInt32).toInt8.toInt32)), (.int ((((XT.ushrL fl (48 : Int32)).toInt32).toInt8.toInt32).toInt8.toInt32)), (.int ((((XT.ushrL fl (51 : Int32)).toInt32).toInt8.toInt32).toInt8.toInt32)), (.int ((((XT.ushrL fl (54 : Int32)).toInt32).toInt8.toInt32).toInt8.toInt32)), (.int (0 : Int32))] := V_b2
  have sz21 : n0 ≤ h21.size := Nat.le_trans sz20 (Nat.le_of_eq (Wr.size W21).symm)
  refine Own.aload X21 hx (pc := 211) (hb hby at_211) rfl rfl ?_
  refine Own.bipush X21 hx (pc := 213) (19 : Int32) (hb hby at_213) (by decide) ?_
  refine Own.lloadN X21 hx (pc := 215) (hb hby at_215) rfl ?_
  refine Own.bipush X21 hx (pc := 216) (57 : Int32) (hb hby at_216) (by decide) ?_
  refine Own.lushr X21 hx (pc := 218) (hb hby at_218) ?_
  refine Own.l2i X21 hx (pc := 219) (hb hby at_219) ?_
  refine Own.i2b X21 hx (pc := 220) (hb hby at_220) ?_
  refine Own.bastore X21 hx hZ (pc := 221) e21 V_b2 19 (by decide) (by decide) (of_decide_eq_true rfl) N21 ge_b2 (hb hby at_221) ?_
  intro T22 h22 X22 e22 W22 N22 V_b2
  replace V_b2 : Own.VArr Z h22 b2 .byte [(.int fl.toInt32.toInt8.toInt32.toInt8.toInt32), (.int ((((XT.ushrL fl (3 : Int32)).toInt32).toInt8.toInt32).toInt8.toInt32)), (.int ((((XT.ushrL fl (6 : Int32)).toInt32).toInt8.toInt32).toInt8.toInt32)), (.int ((((XT.ushrL fl (9 : Int32)).toInt32).toInt8.toInt32).toInt8.toInt32)), (.int ((((XT.ushrL fl (12 : Int32)).toInt32).toInt8.toInt32).toInt8.toInt32)), (.int ((((XT.ushrL fl (15 : Int32)).toInt32).toInt8.toInt32).toInt8.toInt32)), (.int ((((XT.ushrL fl (18 : Int32)).toInt32).toInt8.toInt32).toInt8.toInt32)), (.int ((((XT.ushrL fl (21 : Int32)).toInt32).toInt8.toInt32).toInt8.toInt32)), (.int ((((XT.ushrL fl (24 : Int32)).toInt32).toInt8.toInt32).toInt8.toInt32)), (.int ((((XT.ushrL fl (27 : Int32)).toInt32).toInt8.toInt32).toInt8.toInt32)), (.int ((((XT.ushrL fl (30 : Int32)).toInt32).toInt8.toInt32).toInt8.toInt32)), (.int ((((XT.ushrL fl (33 : Int32)).toInt32).toInt8.toInt32).toInt8.toInt32)), (.int ((((XT.ushrL fl (36 : Int32)).toInt32).toInt8.toInt32).toInt8.toInt32)), (.int ((((XT.ushrL fl (39 : Int32)).toInt32).toInt8.toInt32).toInt8.toInt32)), (.int ((((XT.ushrL fl (42 : Int32)).toInt32).toInt8.toInt32).toInt8.toInt32)), (.int ((((XT.ushrL fl (45 : Int32)).toInt32).toInt8.toInt32).toInt8.toInt32)), (.int ((((XT.ushrL fl (48 : Int32)).toInt32).toInt8.toInt32).toInt8.toInt32)), (.int ((((XT.ushrL fl (51 : Int32)).toInt32).toInt8.toInt32).toInt8.toInt32)), (.int ((((XT.ushrL fl (54 : Int32)).toInt32).toInt8.toInt32).toInt8.toInt32)), (.int ((((XT.ushrL fl (57 : Int32)).toInt32).toInt8.toInt32).toInt8.toInt32))] := V_b2
  have sz22 : n0 ≤ h22.size := Nat.le_trans sz21 (Nat.le_of_eq (Wr.size W22).symm)
  rcases own_mod3 _ qo1 with rfl | rfl | rfl | rfl
  · refine Own.aload X22 hx (pc := 222) (hb hby at_222) rfl rfl ?_
    refine Own.iload X22 hx (pc := 224) (hb hby at_224) rfl ?_
    refine Own.iloadN X22 hx (pc := 226) (hb hby at_226) rfl ?_
    refine Own.i2b X22 hx (pc := 227) (hb hby at_227) ?_
    refine Own.bastore X22 hx hZ (pc := 228) e22 V_b2 0 (by decide) (by decide) (of_decide_eq_true rfl) N22 ge_b2 (hb hby at_228) ?_
    intro T23 h23 X23 e23 W23 N23 V_b2
    replace V_b2 : Own.VArr Z h23 b2 .byte [(.int ep.toInt8.toInt32.toInt8.toInt32), (.int ((((XT.ushrL fl (3 : Int32)).toInt32).toInt8.toInt32).toInt8.toInt32)), (.int ((((XT.ushrL fl (6 : Int32)).toInt32).toInt8.toInt32).toInt8.toInt32)), (.int ((((XT.ushrL fl (9 : Int32)).toInt32).toInt8.toInt32).toInt8.toInt32)), (.int ((((XT.ushrL fl (12 : Int32)).toInt32).toInt8.toInt32).toInt8.toInt32)), (.int ((((XT.ushrL fl (15 : Int32)).toInt32).toInt8.toInt32).toInt8.toInt32)), (.int ((((XT.ushrL fl (18 : Int32)).toInt32).toInt8.toInt32).toInt8.toInt32)), (.int ((((XT.ushrL fl (21 : Int32)).toInt32).toInt8.toInt32).toInt8.toInt32)), (.int ((((XT.ushrL fl (24 : Int32)).toInt32).toInt8.toInt32).toInt8.toInt32)), (.int ((((XT.ushrL fl (27 : Int32)).toInt32).toInt8.toInt32).toInt8.toInt32)), (.int ((((XT.ushrL fl (30 : Int32)).toInt32).toInt8.toInt32).toInt8.toInt32)), (.int ((((XT.ushrL fl (33 : Int32)).toInt32).toInt8.toInt32).toInt8.toInt32)), (.int ((((XT.ushrL fl (36 : Int32)).toInt32).toInt8.toInt32).toInt8.toInt32)), (.int ((((XT.ushrL fl (39 : Int32)).toInt32).toInt8.toInt32).toInt8.toInt32)), (.int ((((XT.ushrL fl (42 : Int32)).toInt32).toInt8.toInt32).toInt8.toInt32)), (.int ((((XT.ushrL fl (45 : Int32)).toInt32).toInt8.toInt32).toInt8.toInt32)), (.int ((((XT.ushrL fl (48 : Int32)).toInt32).toInt8.toInt32).toInt8.toInt32)), (.int ((((XT.ushrL fl (51 : Int32)).toInt32).toInt8.toInt32).toInt8.toInt32)), (.int ((((XT.ushrL fl (54 : Int32)).toInt32).toInt8.toInt32).toInt8.toInt32)), (.int ((((XT.ushrL fl (57 : Int32)).toInt32).toInt8.toInt32).toInt8.toInt32))] := V_b2
    have sz23 : n0 ≤ h23.size := Nat.le_trans sz22 (Nat.le_of_eq (Wr.size W23).symm)
    refine Own.aload X23 hx (pc := 229) (hb hby at_229) rfl rfl ?_
    refine Own.iload X23 hx (pc := 231) (hb hby at_231) rfl ?_
    refine Own.iconst X23 hx (pc := 233) (1 : Int32) (hb hby at_233) (by decide) ?_
    refine Own.iadd X23 hx (pc := 234) (hb hby at_234) ?_
    refine Own.topI (show ((0 : Int32) + (1 : Int32)) = (1 : Int32) by decide) ?_
    refine Own.lloadN X23 hx (pc := 235) (hb hby at_235) rfl ?_
    refine Own.bipush X23 hx (pc := 236) (56 : Int32) (hb hby at_236) (by decide) ?_
    refine Own.lushr X23 hx (pc := 238) (hb hby at_238) ?_
    refine Own.l2i X23 hx (pc := 239) (hb hby at_239) ?_
    refine Own.i2b X23 hx (pc := 240) (hb hby at_240) ?_
    refine Own.bastore X23 hx hZ (pc := 241) e23 V_b2 1 (by decide) (by decide) (of_decide_eq_true rfl) N23 ge_b2 (hb hby at_241) ?_
    intro T24 h24 X24 e24 W24 N24 V_b2
    replace V_b2 : Own.VArr Z h24 b2 .byte [(.int ep.toInt8.toInt32.toInt8.toInt32), (.int ((((XT.ushrL v (56 : Int32)).toInt32).toInt8.toInt32).toInt8.toInt32)), (.int ((((XT.ushrL fl (6 : Int32)).toInt32).toInt8.toInt32).toInt8.toInt32)), (.int ((((XT.ushrL fl (9 : Int32)).toInt32).toInt8.toInt32).toInt8.toInt32)), (.int ((((XT.ushrL fl (12 : Int32)).toInt32).toInt8.toInt32).toInt8.toInt32)), (.int ((((XT.ushrL fl (15 : Int32)).toInt32).toInt8.toInt32).toInt8.toInt32)), (.int ((((XT.ushrL fl (18 : Int32)).toInt32).toInt8.toInt32).toInt8.toInt32)), (.int ((((XT.ushrL fl (21 : Int32)).toInt32).toInt8.toInt32).toInt8.toInt32)), (.int ((((XT.ushrL fl (24 : Int32)).toInt32).toInt8.toInt32).toInt8.toInt32)), (.int ((((XT.ushrL fl (27 : Int32)).toInt32).toInt8.toInt32).toInt8.toInt32)), (.int ((((XT.ushrL fl (30 : Int32)).toInt32).toInt8.toInt32).toInt8.toInt32)), (.int ((((XT.ushrL fl (33 : Int32)).toInt32).toInt8.toInt32).toInt8.toInt32)), (.int ((((XT.ushrL fl (36 : Int32)).toInt32).toInt8.toInt32).toInt8.toInt32)), (.int ((((XT.ushrL fl (39 : Int32)).toInt32).toInt8.toInt32).toInt8.toInt32)), (.int ((((XT.ushrL fl (42 : Int32)).toInt32).toInt8.toInt32).toInt8.toInt32)), (.int ((((XT.ushrL fl (45 : Int32)).toInt32).toInt8.toInt32).toInt8.toInt32)), (.int ((((XT.ushrL fl (48 : Int32)).toInt32).toInt8.toInt32).toInt8.toInt32)), (.int ((((XT.ushrL fl (51 : Int32)).toInt32).toInt8.toInt32).toInt8.toInt32)), (.int ((((XT.ushrL fl (54 : Int32)).toInt32).toInt8.toInt32).toInt8.toInt32)), (.int ((((XT.ushrL fl (57 : Int32)).toInt32).toInt8.toInt32).toInt8.toInt32))] := V_b2
    have sz24 : n0 ≤ h24.size := Nat.le_trans sz23 (Nat.le_of_eq (Wr.size W24).symm)
    refine Own.aload X24 hx (pc := 242) (hb hby at_242) rfl rfl ?_
    refine Own.iload X24 hx (pc := 244) (hb hby at_244) rfl ?_
    refine Own.iconst X24 hx (pc := 246) (2 : Int32) (hb hby at_246) (by decide) ?_
    refine Own.iadd X24 hx (pc := 247) (hb hby at_247) ?_
    refine Own.topI (show ((0 : Int32) + (2 : Int32)) = (2 : Int32) by decide) ?_
    refine Own.lloadN X24 hx (pc := 248) (hb hby at_248) rfl ?_
    refine Own.bipush X24 hx (pc := 249) (48 : Int32) (hb hby at_249) (by decide) ?_
    refine Own.lushr X24 hx (pc := 251) (hb hby at_251) ?_
    refine Own.l2i X24 hx (pc := 252) (hb hby at_252) ?_
    refine Own.i2b X24 hx (pc := 253) (hb hby at_253) ?_
    refine Own.bastore X24 hx hZ (pc := 254) e24 V_b2 2 (by decide) (by decide) (of_decide_eq_true rfl) N24 ge_b2 (hb hby at_254) ?_
    intro T25 h25 X25 e25 W25 N25 V_b2
    replace V_b2 : Own.VArr Z h25 b2 .byte [(.int ep.toInt8.toInt32.toInt8.toInt32), (.int ((((XT.ushrL v (56 : Int32)).toInt32).toInt8.toInt32).toInt8.toInt32)), (.int ((((XT.ushrL v (48 : Int32)).toInt32).toInt8.toInt32).toInt8.toInt32)), (.int ((((XT.ushrL fl (9 : Int32)).toInt32).toInt8.toInt32).toInt8.toInt32)), (.int ((((XT.ushrL fl (12 : Int32)).toInt32).toInt8.toInt32).toInt8.toInt32)), (.int ((((XT.ushrL fl (15 : Int32)).toInt32).toInt8.toInt32).toInt8.toInt32)), (.int ((((XT.ushrL fl (18 : Int32)).toInt32).toInt8.toInt32).toInt8.toInt32)), (.int ((((XT.ushrL fl (21 : Int32)).toInt32).toInt8.toInt32).toInt8.toInt32)), (.int ((((XT.ushrL fl (24 : Int32)).toInt32).toInt8.toInt32).toInt8.toInt32)), (.int ((((XT.ushrL fl (27 : Int32)).toInt32).toInt8.toInt32).toInt8.toInt32)), (.int ((((XT.ushrL fl (30 : Int32)).toInt32).toInt8.toInt32).toInt8.toInt32)), (.int ((((XT.ushrL fl (33 : Int32)).toInt32).toInt8.toInt32).toInt8.toInt32)), (.int ((((XT.ushrL fl (36 : Int32)).toInt32).toInt8.toInt32).toInt8.toInt32)), (.int ((((XT.ushrL fl (39 : Int32)).toInt32).toInt8.toInt32).toInt8.toInt32)), (.int ((((XT.ushrL fl (42 : Int32)).toInt32).toInt8.toInt32).toInt8.toInt32)), (.int ((((XT.ushrL fl (45 : Int32)).toInt32).toInt8.toInt32).toInt8.toInt32)), (.int ((((XT.ushrL fl (48 : Int32)).toInt32).toInt8.toInt32).toInt8.toInt32)), (.int ((((XT.ushrL fl (51 : Int32)).toInt32).toInt8.toInt32).toInt8.toInt32)), (.int ((((XT.ushrL fl (54 : Int32)).toInt32).toInt8.toInt32).toInt8.toInt32)), (.int ((((XT.ushrL fl (57 : Int32)).toInt32).toInt8.toInt32).toInt8.toInt32))] := V_b2
    have sz25 : n0 ≤ h25.size := Nat.le_trans sz24 (Nat.le_of_eq (Wr.size W25).symm)
    refine Own.aload X25 hx (pc := 255) (hb hby at_255) rfl rfl ?_
    refine Own.iload X25 hx (pc := 257) (hb hby at_257) rfl ?_
    refine Own.iconst X25 hx (pc := 259) (3 : Int32) (hb hby at_259) (by decide) ?_
    refine Own.iadd X25 hx (pc := 260) (hb hby at_260) ?_
    refine Own.topI (show ((0 : Int32) + (3 : Int32)) = (3 : Int32) by decide) ?_
    refine Own.lloadN X25 hx (pc := 261) (hb hby at_261) rfl ?_
    refine Own.bipush X25 hx (pc := 262) (40 : Int32) (hb hby at_262) (by decide) ?_
    refine Own.lushr X25 hx (pc := 264) (hb hby at_264) ?_
    refine Own.l2i X25 hx (pc := 265) (hb hby at_265) ?_
    refine Own.i2b X25 hx (pc := 266) (hb hby at_266) ?_
    refine Own.bastore X25 hx hZ (pc := 267) e25 V_b2 3 (by decide) (by decide) (of_decide_eq_true rfl) N25 ge_b2 (hb hby at_267) ?_
    intro T26 h26 X26 e26 W26 N26 V_b2
    replace V_b2 : Own.VArr Z h26 b2 .byte [(.int ep.toInt8.toInt32.toInt8.toInt32), (.int ((((XT.ushrL v (56 : Int32)).toInt32).toInt8.toInt32).toInt8.toInt32)), (.int ((((XT.ushrL v (48 : Int32)).toInt32).toInt8.toInt32).toInt8.toInt32)), (.int ((((XT.ushrL v (40 : Int32)).toInt32).toInt8.toInt32).toInt8.toInt32)), (.int ((((XT.ushrL fl (12 : Int32)).toInt32).toInt8.toInt32).toInt8.toInt32)), (.int ((((XT.ushrL fl (15 : Int32)).toInt32).toInt8.toInt32).toInt8.toInt32)), (.int ((((XT.ushrL fl (18 : Int32)).toInt32).toInt8.toInt32).toInt8.toInt32)), (.int ((((XT.ushrL fl (21 : Int32)).toInt32).toInt8.toInt32).toInt8.toInt32)), (.int ((((XT.ushrL fl (24 : Int32)).toInt32).toInt8.toInt32).toInt8.toInt32)), (.int ((((XT.ushrL fl (27 : Int32)).toInt32).toInt8.toInt32).toInt8.toInt32)), (.int ((((XT.ushrL fl (30 : Int32)).toInt32).toInt8.toInt32).toInt8.toInt32)), (.int ((((XT.ushrL fl (33 : Int32)).toInt32).toInt8.toInt32).toInt8.toInt32)), (.int ((((XT.ushrL fl (36 : Int32)).toInt32).toInt8.toInt32).toInt8.toInt32)), (.int ((((XT.ushrL fl (39 : Int32)).toInt32).toInt8.toInt32).toInt8.toInt32)), (.int ((((XT.ushrL fl (42 : Int32)).toInt32).toInt8.toInt32).toInt8.toInt32)), (.int ((((XT.ushrL fl (45 : Int32)).toInt32).toInt8.toInt32).toInt8.toInt32)), (.int ((((XT.ushrL fl (48 : Int32)).toInt32).toInt8.toInt32).toInt8.toInt32)), (.int ((((XT.ushrL fl (51 : Int32)).toInt32).toInt8.toInt32).toInt8.toInt32)), (.int ((((XT.ushrL fl (54 : Int32)).toInt32).toInt8.toInt32).toInt8.toInt32)), (.int ((((XT.ushrL fl (57 : Int32)).toInt32).toInt8.toInt32).toInt8.toInt32))] := V_b2
    have sz26 : n0 ≤ h26.size := Nat.le_trans sz25 (Nat.le_of_eq (Wr.size W26).symm)
    refine Own.aload X26 hx (pc := 268) (hb hby at_268) rfl rfl ?_
    refine Own.iload X26 hx (pc := 270) (hb hby at_270) rfl ?_
    refine Own.iconst X26 hx (pc := 272) (4 : Int32) (hb hby at_272) (by decide) ?_
    refine Own.iadd X26 hx (pc := 273) (hb hby at_273) ?_
    refine Own.topI (show ((0 : Int32) + (4 : Int32)) = (4 : Int32) by decide) ?_
    refine Own.lloadN X26 hx (pc := 274) (hb hby at_274) rfl ?_
    refine Own.bipush X26 hx (pc := 275) (32 : Int32) (hb hby at_275) (by decide) ?_
    refine Own.lushr X26 hx (pc := 277) (hb hby at_277) ?_
    refine Own.l2i X26 hx (pc := 278) (hb hby at_278) ?_
    refine Own.i2b X26 hx (pc := 279) (hb hby at_279) ?_
    refine Own.bastore X26 hx hZ (pc := 280) e26 V_b2 4 (by decide) (by decide) (of_decide_eq_true rfl) N26 ge_b2 (hb hby at_280) ?_
    intro T27 h27 X27 e27 W27 N27 V_b2
    replace V_b2 : Own.VArr Z h27 b2 .byte [(.int ep.toInt8.toInt32.toInt8.toInt32), (.int ((((XT.ushrL v (56 : Int32)).toInt32).toInt8.toInt32).toInt8.toInt32)), (.int ((((XT.ushrL v (48 : Int32)).toInt32).toInt8.toInt32).toInt8.toInt32)), (.int ((((XT.ushrL v (40 : Int32)).toInt32).toInt8.toInt32).toInt8.toInt32)), (.int ((((XT.ushrL v (32 : Int32)).toInt32).toInt8.toInt32).toInt8.toInt32)), (.int ((((XT.ushrL fl (15 : Int32)).toInt32).toInt8.toInt32).toInt8.toInt32)), (.int ((((XT.ushrL fl (18 : Int32)).toInt32).toInt8.toInt32).toInt8.toInt32)), (.int ((((XT.ushrL fl (21 : Int32)).toInt32).toInt8.toInt32).toInt8.toInt32)), (.int ((((XT.ushrL fl (24 : Int32)).toInt32).toInt8.toInt32).toInt8.toInt32)), (.int ((((XT.ushrL fl (27 : Int32)).toInt32).toInt8.toInt32).toInt8.toInt32)), (.int ((((XT.ushrL fl (30 : Int32)).toInt32).toInt8.toInt32).toInt8.toInt32)), (.int ((((XT.ushrL fl (33 : Int32)).toInt32).toInt8.toInt32).toInt8.toInt32)), (.int ((((XT.ushrL fl (36 : Int32)).toInt32).toInt8.toInt32).toInt8.toInt32)), (.int ((((XT.ushrL fl (39 : Int32)).toInt32).toInt8.toInt32).toInt8.toInt32)), (.int ((((XT.ushrL fl (42 : Int32)).toInt32).toInt8.toInt32).toInt8.toInt32)), (.int ((((XT.ushrL fl (45 : Int32)).toInt32).toInt8.toInt32).toInt8.toInt32)), (.int ((((XT.ushrL fl (48 : Int32)).toInt32).toInt8.toInt32).toInt8.toInt32)), (.int ((((XT.ushrL fl (51 : Int32)).toInt32).toInt8.toInt32).toInt8.toInt32)), (.int ((((XT.ushrL fl (54 : Int32)).toInt32).toInt8.toInt32).toInt8.toInt32)), (.int ((((XT.ushrL fl (57 : Int32)).toInt32).toInt8.toInt32).toInt8.toInt32))] := V_b2
    have sz27 : n0 ≤ h27.size := Nat.le_trans sz26 (Nat.le_of_eq (Wr.size W27).symm)
    refine Own.aload X27 hx (pc := 281) (hb hby at_281) rfl rfl ?_
    refine Own.iload X27 hx (pc := 283) (hb hby at_283) rfl ?_
    refine Own.iconst X27 hx (pc := 285) (5 : Int32) (hb hby at_285) (by decide) ?_
    refine Own.iadd X27 hx (pc := 286) (hb hby at_286) ?_
    refine Own.topI (show ((0 : Int32) + (5 : Int32)) = (5 : Int32) by decide) ?_
    refine Own.lloadN X27 hx (pc := 287) (hb hby at_287) rfl ?_
    refine Own.bipush X27 hx (pc := 288) (24 : Int32) (hb hby at_288) (by decide) ?_
    refine Own.lushr X27 hx (pc := 290) (hb hby at_290) ?_
    refine Own.l2i X27 hx (pc := 291) (hb hby at_291) ?_
    refine Own.i2b X27 hx (pc := 292) (hb hby at_292) ?_
    refine Own.bastore X27 hx hZ (pc := 293) e27 V_b2 5 (by decide) (by decide) (of_decide_eq_true rfl) N27 ge_b2 (hb hby at_293) ?_
    intro T28 h28 X28 e28 W28 N28 V_b2
    replace V_b2 : Own.VArr Z h28 b2 .byte [(.int ep.toInt8.toInt32.toInt8.toInt32), (.int ((((XT.ushrL v (56 : Int32)).toInt32).toInt8.toInt32).toInt8.toInt32)), (.int ((((XT.ushrL v (48 : Int32)).toInt32).toInt8.toInt32).toInt8.toInt32)), (.int ((((XT.ushrL v (40 : Int32)).toInt32).toInt8.toInt32).toInt8.toInt32)), (.int ((((XT.ushrL v (32 : Int32)).toInt32).toInt8.toInt32).toInt8.toInt32)), (.int ((((XT.ushrL v (24 : Int32)).toInt32).toInt8.toInt32).toInt8.toInt32)), (.int ((((XT.ushrL fl (18 : Int32)).toInt32).toInt8.toInt32).toInt8.toInt32)), (.int ((((XT.ushrL fl (21 : Int32)).toInt32).toInt8.toInt32).toInt8.toInt32)), (.int ((((XT.ushrL fl (24 : Int32)).toInt32).toInt8.toInt32).toInt8.toInt32)), (.int ((((XT.ushrL fl (27 : Int32)).toInt32).toInt8.toInt32).toInt8.toInt32)), (.int ((((XT.ushrL fl (30 : Int32)).toInt32).toInt8.toInt32).toInt8.toInt32)), (.int ((((XT.ushrL fl (33 : Int32)).toInt32).toInt8.toInt32).toInt8.toInt32)), (.int ((((XT.ushrL fl (36 : Int32)).toInt32).toInt8.toInt32).toInt8.toInt32)), (.int ((((XT.ushrL fl (39 : Int32)).toInt32).toInt8.toInt32).toInt8.toInt32)), (.int ((((XT.ushrL fl (42 : Int32)).toInt32).toInt8.toInt32).toInt8.toInt32)), (.int ((((XT.ushrL fl (45 : Int32)).toInt32).toInt8.toInt32).toInt8.toInt32)), (.int ((((XT.ushrL fl (48 : Int32)).toInt32).toInt8.toInt32).toInt8.toInt32)), (.int ((((XT.ushrL fl (51 : Int32)).toInt32).toInt8.toInt32).toInt8.toInt32)), (.int ((((XT.ushrL fl (54 : Int32)).toInt32).toInt8.toInt32).toInt8.toInt32)), (.int ((((XT.ushrL fl (57 : Int32)).toInt32).toInt8.toInt32).toInt8.toInt32))] := V_b2
    have sz28 : n0 ≤ h28.size := Nat.le_trans sz27 (Nat.le_of_eq (Wr.size W28).symm)
    refine Own.aload X28 hx (pc := 294) (hb hby at_294) rfl rfl ?_
    refine Own.iload X28 hx (pc := 296) (hb hby at_296) rfl ?_
    refine Own.bipush X28 hx (pc := 298) (6 : Int32) (hb hby at_298) (by decide) ?_
    refine Own.iadd X28 hx (pc := 300) (hb hby at_300) ?_
    refine Own.topI (show ((0 : Int32) + (6 : Int32)) = (6 : Int32) by decide) ?_
    refine Own.lloadN X28 hx (pc := 301) (hb hby at_301) rfl ?_
    refine Own.bipush X28 hx (pc := 302) (16 : Int32) (hb hby at_302) (by decide) ?_
    refine Own.lushr X28 hx (pc := 304) (hb hby at_304) ?_
    refine Own.l2i X28 hx (pc := 305) (hb hby at_305) ?_
    refine Own.i2b X28 hx (pc := 306) (hb hby at_306) ?_
    refine Own.bastore X28 hx hZ (pc := 307) e28 V_b2 6 (by decide) (by decide) (of_decide_eq_true rfl) N28 ge_b2 (hb hby at_307) ?_
    intro T29 h29 X29 e29 W29 N29 V_b2
    replace V_b2 : Own.VArr Z h29 b2 .byte [(.int ep.toInt8.toInt32.toInt8.toInt32), (.int ((((XT.ushrL v (56 : Int32)).toInt32).toInt8.toInt32).toInt8.toInt32)), (.int ((((XT.ushrL v (48 : Int32)).toInt32).toInt8.toInt32).toInt8.toInt32)), (.int ((((XT.ushrL v (40 : Int32)).toInt32).toInt8.toInt32).toInt8.toInt32)), (.int ((((XT.ushrL v (32 : Int32)).toInt32).toInt8.toInt32).toInt8.toInt32)), (.int ((((XT.ushrL v (24 : Int32)).toInt32).toInt8.toInt32).toInt8.toInt32)), (.int ((((XT.ushrL v (16 : Int32)).toInt32).toInt8.toInt32).toInt8.toInt32)), (.int ((((XT.ushrL fl (21 : Int32)).toInt32).toInt8.toInt32).toInt8.toInt32)), (.int ((((XT.ushrL fl (24 : Int32)).toInt32).toInt8.toInt32).toInt8.toInt32)), (.int ((((XT.ushrL fl (27 : Int32)).toInt32).toInt8.toInt32).toInt8.toInt32)), (.int ((((XT.ushrL fl (30 : Int32)).toInt32).toInt8.toInt32).toInt8.toInt32)), (.int ((((XT.ushrL fl (33 : Int32)).toInt32).toInt8.toInt32).toInt8.toInt32)), (.int ((((XT.ushrL fl (36 : Int32)).toInt32).toInt8.toInt32).toInt8.toInt32)), (.int ((((XT.ushrL fl (39 : Int32)).toInt32).toInt8.toInt32).toInt8.toInt32)), (.int ((((XT.ushrL fl (42 : Int32)).toInt32).toInt8.toInt32).toInt8.toInt32)), (.int ((((XT.ushrL fl (45 : Int32)).toInt32).toInt8.toInt32).toInt8.toInt32)), (.int ((((XT.ushrL fl (48 : Int32)).toInt32).toInt8.toInt32).toInt8.toInt32)), (.int ((((XT.ushrL fl (51 : Int32)).toInt32).toInt8.toInt32).toInt8.toInt32)), (.int ((((XT.ushrL fl (54 : Int32)).toInt32).toInt8.toInt32).toInt8.toInt32)), (.int ((((XT.ushrL fl (57 : Int32)).toInt32).toInt8.toInt32).toInt8.toInt32))] := V_b2
    have sz29 : n0 ≤ h29.size := Nat.le_trans sz28 (Nat.le_of_eq (Wr.size W29).symm)
    refine Own.aload X29 hx (pc := 308) (hb hby at_308) rfl rfl ?_
    refine Own.iload X29 hx (pc := 310) (hb hby at_310) rfl ?_
    refine Own.bipush X29 hx (pc := 312) (7 : Int32) (hb hby at_312) (by decide) ?_
    refine Own.iadd X29 hx (pc := 314) (hb hby at_314) ?_
    refine Own.topI (show ((0 : Int32) + (7 : Int32)) = (7 : Int32) by decide) ?_
    refine Own.lloadN X29 hx (pc := 315) (hb hby at_315) rfl ?_
    refine Own.bipush X29 hx (pc := 316) (8 : Int32) (hb hby at_316) (by decide) ?_
    refine Own.lushr X29 hx (pc := 318) (hb hby at_318) ?_
    refine Own.l2i X29 hx (pc := 319) (hb hby at_319) ?_
    refine Own.i2b X29 hx (pc := 320) (hb hby at_320) ?_
    refine Own.bastore X29 hx hZ (pc := 321) e29 V_b2 7 (by decide) (by decide) (of_decide_eq_true rfl) N29 ge_b2 (hb hby at_321) ?_
    intro T30 h30 X30 e30 W30 N30 V_b2
    replace V_b2 : Own.VArr Z h30 b2 .byte [(.int ep.toInt8.toInt32.toInt8.toInt32), (.int ((((XT.ushrL v (56 : Int32)).toInt32).toInt8.toInt32).toInt8.toInt32)), (.int ((((XT.ushrL v (48 : Int32)).toInt32).toInt8.toInt32).toInt8.toInt32)), (.int ((((XT.ushrL v (40 : Int32)).toInt32).toInt8.toInt32).toInt8.toInt32)), (.int ((((XT.ushrL v (32 : Int32)).toInt32).toInt8.toInt32).toInt8.toInt32)), (.int ((((XT.ushrL v (24 : Int32)).toInt32).toInt8.toInt32).toInt8.toInt32)), (.int ((((XT.ushrL v (16 : Int32)).toInt32).toInt8.toInt32).toInt8.toInt32)), (.int ((((XT.ushrL v (8 : Int32)).toInt32).toInt8.toInt32).toInt8.toInt32)), (.int ((((XT.ushrL fl (24 : Int32)).toInt32).toInt8.toInt32).toInt8.toInt32)), (.int ((((XT.ushrL fl (27 : Int32)).toInt32).toInt8.toInt32).toInt8.toInt32)), (.int ((((XT.ushrL fl (30 : Int32)).toInt32).toInt8.toInt32).toInt8.toInt32)), (.int ((((XT.ushrL fl (33 : Int32)).toInt32).toInt8.toInt32).toInt8.toInt32)), (.int ((((XT.ushrL fl (36 : Int32)).toInt32).toInt8.toInt32).toInt8.toInt32)), (.int ((((XT.ushrL fl (39 : Int32)).toInt32).toInt8.toInt32).toInt8.toInt32)), (.int ((((XT.ushrL fl (42 : Int32)).toInt32).toInt8.toInt32).toInt8.toInt32)), (.int ((((XT.ushrL fl (45 : Int32)).toInt32).toInt8.toInt32).toInt8.toInt32)), (.int ((((XT.ushrL fl (48 : Int32)).toInt32).toInt8.toInt32).toInt8.toInt32)), (.int ((((XT.ushrL fl (51 : Int32)).toInt32).toInt8.toInt32).toInt8.toInt32)), (.int ((((XT.ushrL fl (54 : Int32)).toInt32).toInt8.toInt32).toInt8.toInt32)), (.int ((((XT.ushrL fl (57 : Int32)).toInt32).toInt8.toInt32).toInt8.toInt32))] := V_b2
    have sz30 : n0 ≤ h30.size := Nat.le_trans sz29 (Nat.le_of_eq (Wr.size W30).symm)
    refine Own.aload X30 hx (pc := 322) (hb hby at_322) rfl rfl ?_
    refine Own.iload X30 hx (pc := 324) (hb hby at_324) rfl ?_
    refine Own.bipush X30 hx (pc := 326) (8 : Int32) (hb hby at_326) (by decide) ?_
    refine Own.iadd X30 hx (pc := 328) (hb hby at_328) ?_
    refine Own.topI (show ((0 : Int32) + (8 : Int32)) = (8 : Int32) by decide) ?_
    refine Own.lloadN X30 hx (pc := 329) (hb hby at_329) rfl ?_
    refine Own.l2i X30 hx (pc := 330) (hb hby at_330) ?_
    refine Own.i2b X30 hx (pc := 331) (hb hby at_331) ?_
    refine Own.bastore X30 hx hZ (pc := 332) e30 V_b2 8 (by decide) (by decide) (of_decide_eq_true rfl) N30 ge_b2 (hb hby at_332) ?_
    intro T31 h31 X31 e31 W31 N31 V_b2
    replace V_b2 : Own.VArr Z h31 b2 .byte [(.int ep.toInt8.toInt32.toInt8.toInt32), (.int ((((XT.ushrL v (56 : Int32)).toInt32).toInt8.toInt32).toInt8.toInt32)), (.int ((((XT.ushrL v (48 : Int32)).toInt32).toInt8.toInt32).toInt8.toInt32)), (.int ((((XT.ushrL v (40 : Int32)).toInt32).toInt8.toInt32).toInt8.toInt32)), (.int ((((XT.ushrL v (32 : Int32)).toInt32).toInt8.toInt32).toInt8.toInt32)), (.int ((((XT.ushrL v (24 : Int32)).toInt32).toInt8.toInt32).toInt8.toInt32)), (.int ((((XT.ushrL v (16 : Int32)).toInt32).toInt8.toInt32).toInt8.toInt32)), (.int ((((XT.ushrL v (8 : Int32)).toInt32).toInt8.toInt32).toInt8.toInt32)), (.int v.toInt32.toInt8.toInt32.toInt8.toInt32), (.int ((((XT.ushrL fl (27 : Int32)).toInt32).toInt8.toInt32).toInt8.toInt32)), (.int ((((XT.ushrL fl (30 : Int32)).toInt32).toInt8.toInt32).toInt8.toInt32)), (.int ((((XT.ushrL fl (33 : Int32)).toInt32).toInt8.toInt32).toInt8.toInt32)), (.int ((((XT.ushrL fl (36 : Int32)).toInt32).toInt8.toInt32).toInt8.toInt32)), (.int ((((XT.ushrL fl (39 : Int32)).toInt32).toInt8.toInt32).toInt8.toInt32)), (.int ((((XT.ushrL fl (42 : Int32)).toInt32).toInt8.toInt32).toInt8.toInt32)), (.int ((((XT.ushrL fl (45 : Int32)).toInt32).toInt8.toInt32).toInt8.toInt32)), (.int ((((XT.ushrL fl (48 : Int32)).toInt32).toInt8.toInt32).toInt8.toInt32)), (.int ((((XT.ushrL fl (51 : Int32)).toInt32).toInt8.toInt32).toInt8.toInt32)), (.int ((((XT.ushrL fl (54 : Int32)).toInt32).toInt8.toInt32).toInt8.toInt32)), (.int ((((XT.ushrL fl (57 : Int32)).toInt32).toInt8.toInt32).toInt8.toInt32))] := V_b2
    have sz31 : n0 ≤ h31.size := Nat.le_trans sz30 (Nat.le_of_eq (Wr.size W31).symm)
    refine Own.aload X31 hx (pc := 333) (hb hby at_333) rfl rfl ?_
    refine Own.iload X31 hx (pc := 335) (hb hby at_335) rfl ?_
    refine Own.callStatic X31 hx hZ (pc := 337) (y := (⟨"com/example/traceloom/traceloom/smf/Stcke", "unixNanos", "([BI)J"⟩ : MethodName)) hown (Wd hw 1 rfl) (Wd hw 2 rfl) (Wd hw 3 rfl) (Wd hw 4 rfl) (by decide) 0 [(.ref b2), (.int (0 : Int32))] [] (rm1 l Z a0 hw b2 (0 : Int32) ([(.int ep.toInt8.toInt32.toInt8.toInt32), (.int ((((XT.ushrL v (56 : Int32)).toInt32).toInt8.toInt32).toInt8.toInt32)), (.int ((((XT.ushrL v (48 : Int32)).toInt32).toInt8.toInt32).toInt8.toInt32)), (.int ((((XT.ushrL v (40 : Int32)).toInt32).toInt8.toInt32).toInt8.toInt32)), (.int ((((XT.ushrL v (32 : Int32)).toInt32).toInt8.toInt32).toInt8.toInt32)), (.int ((((XT.ushrL v (24 : Int32)).toInt32).toInt8.toInt32).toInt8.toInt32)), (.int ((((XT.ushrL v (16 : Int32)).toInt32).toInt8.toInt32).toInt8.toInt32)), (.int ((((XT.ushrL v (8 : Int32)).toInt32).toInt8.toInt32).toInt8.toInt32)), (.int v.toInt32.toInt8.toInt32.toInt8.toInt32), (.int ((((XT.ushrL fl (27 : Int32)).toInt32).toInt8.toInt32).toInt8.toInt32)), (.int ((((XT.ushrL fl (30 : Int32)).toInt32).toInt8.toInt32).toInt8.toInt32)), (.int ((((XT.ushrL fl (33 : Int32)).toInt32).toInt8.toInt32).toInt8.toInt32)), (.int ((((XT.ushrL fl (36 : Int32)).toInt32).toInt8.toInt32).toInt8.toInt32)), (.int ((((XT.ushrL fl (39 : Int32)).toInt32).toInt8.toInt32).toInt8.toInt32)), (.int ((((XT.ushrL fl (42 : Int32)).toInt32).toInt8.toInt32).toInt8.toInt32)), (.int ((((XT.ushrL fl (45 : Int32)).toInt32).toInt8.toInt32).toInt8.toInt32)), (.int ((((XT.ushrL fl (48 : Int32)).toInt32).toInt8.toInt32).toInt8.toInt32)), (.int ((((XT.ushrL fl (51 : Int32)).toInt32).toInt8.toInt32).toInt8.toInt32)), (.int ((((XT.ushrL fl (54 : Int32)).toInt32).toInt8.toInt32).toInt8.toInt32)), (.int ((((XT.ushrL fl (57 : Int32)).toInt32).toInt8.toInt32).toInt8.toInt32))]) ((((XT.ushrL v (56 : Int32)).toInt32).toInt8.toInt32).toInt8.toInt32) ((((XT.ushrL v (48 : Int32)).toInt32).toInt8.toInt32).toInt8.toInt32) ((((XT.ushrL v (40 : Int32)).toInt32).toInt8.toInt32).toInt8.toInt32) ((((XT.ushrL v (32 : Int32)).toInt32).toInt8.toInt32).toInt8.toInt32) ((((XT.ushrL v (24 : Int32)).toInt32).toInt8.toInt32).toInt8.toInt32) ((((XT.ushrL v (16 : Int32)).toInt32).toInt8.toInt32).toInt8.toInt32) ((((XT.ushrL v (8 : Int32)).toInt32).toInt8.toInt32).toInt8.toInt32) v.toInt32.toInt8.toInt32.toInt8.toInt32 h31 n0 sz31 V_b2 (by decide) rfl (by decide) rfl (by decide) rfl (by decide) rfl (by decide) rfl (by decide) rfl (by decide) rfl (by decide) rfl) (by decide) (by decide) e31 (by rw [hml]; rfl) pd1 rfl rfl (Nat.le_of_eq rfl) (hb hby at_337) (by decide) (by decide) ?_
    intro T32 L32 v32 X32 hQ32
    obtain ⟨rfl, Nq32, e32⟩ := hQ32
    have N32 := Fr.app N31 Nq32
    show Own.Go p e below _ (T32.setTop (mkF m 340 #[.val (.long v), .second, .val (.int ep), .val (.long fl), .second, .val (.int off), .val (.int (0 : Int32)), .val (.ref b2), .unset, .unset, .unset, .unset, .unset, .unset, .unset, .unset] [(.long ((((XT.ushrL (((((((((((((((((0 : Int64) <<< (Int32.toInt64 (8 : Int32) &&& 63)) ||| (((((XT.ushrL v (56 : Int32)).toInt32).toInt8.toInt32).toInt8.toInt32) &&& (255 : Int32)).toInt64) <<< (Int32.toInt64 (8 : Int32) &&& 63)) ||| (((((XT.ushrL v (48 : Int32)).toInt32).toInt8.toInt32).toInt8.toInt32) &&& (255 : Int32)).toInt64) <<< (Int32.toInt64 (8 : Int32) &&& 63)) ||| (((((XT.ushrL v (40 : Int32)).toInt32).toInt8.toInt32).toInt8.toInt32) &&& (255 : Int32)).toInt64) <<< (Int32.toInt64 (8 : Int32) &&& 63)) ||| (((((XT.ushrL v (32 : Int32)).toInt32).toInt8.toInt32).toInt8.toInt32) &&& (255 : Int32)).toInt64) <<< (Int32.toInt64 (8 : Int32) &&& 63)) ||| (((((XT.ushrL v (24 : Int32)).toInt32).toInt8.toInt32).toInt8.toInt32) &&& (255 : Int32)).toInt64) <<< (Int32.toInt64 (8 : Int32) &&& 63)) ||| (((((XT.ushrL v (16 : Int32)).toInt32).toInt8.toInt32).toInt8.toInt32) &&& (255 : Int32)).toInt64) <<< (Int32.toInt64 (8 : Int32) &&& 63)) ||| (((((XT.ushrL v (8 : Int32)).toInt32).toInt8.toInt32).toInt8.toInt32) &&& (255 : Int32)).toInt64) <<< (Int32.toInt64 (8 : Int32) &&& 63)) ||| (v.toInt32.toInt8.toInt32.toInt8.toInt32 &&& (255 : Int32)).toInt64) (12 : Int32)) * (1000 : Int64)) + ((((((((((((((((((((0 : Int64) <<< (Int32.toInt64 (8 : Int32) &&& 63)) ||| (((((XT.ushrL v (56 : Int32)).toInt32).toInt8.toInt32).toInt8.toInt32) &&& (255 : Int32)).toInt64) <<< (Int32.toInt64 (8 : Int32) &&& 63)) ||| (((((XT.ushrL v (48 : Int32)).toInt32).toInt8.toInt32).toInt8.toInt32) &&& (255 : Int32)).toInt64) <<< (Int32.toInt64 (8 : Int32) &&& 63)) ||| (((((XT.ushrL v (40 : Int32)).toInt32).toInt8.toInt32).toInt8.toInt32) &&& (255 : Int32)).toInt64) <<< (Int32.toInt64 (8 : Int32) &&& 63)) ||| (((((XT.ushrL v (32 : Int32)).toInt32).toInt8.toInt32).toInt8.toInt32) &&& (255 : Int32)).toInt64) <<< (Int32.toInt64 (8 : Int32) &&& 63)) ||| (((((XT.ushrL v (24 : Int32)).toInt32).toInt8.toInt32).toInt8.toInt32) &&& (255 : Int32)).toInt64) <<< (Int32.toInt64 (8 : Int32) &&& 63)) ||| (((((XT.ushrL v (16 : Int32)).toInt32).toInt8.toInt32).toInt8.toInt32) &&& (255 : Int32)).toInt64) <<< (Int32.toInt64 (8 : Int32) &&& 63)) ||| (((((XT.ushrL v (8 : Int32)).toInt32).toInt8.toInt32).toInt8.toInt32) &&& (255 : Int32)).toInt64) <<< (Int32.toInt64 (8 : Int32) &&& 63)) ||| (v.toInt32.toInt8.toInt32.toInt8.toInt32 &&& (255 : Int32)).toInt64) &&& (4095 : Int64)) * (1000 : Int64)) / (4096 : Int64))) - (2208988800000000000 : Int64)))]))
    refine Own.lstore X32 hx (pc := 340) #[.val (.long v), .second, .val (.int ep), .val (.long fl), .second, .val (.int off), .val (.int (0 : Int32)), .val (.ref b2), .val (.long ((((XT.ushrL (((((((((((((((((0 : Int64) <<< (Int32.toInt64 (8 : Int32) &&& 63)) ||| (((((XT.ushrL v (56 : Int32)).toInt32).toInt8.toInt32).toInt8.toInt32) &&& (255 : Int32)).toInt64) <<< (Int32.toInt64 (8 : Int32) &&& 63)) ||| (((((XT.ushrL v (48 : Int32)).toInt32).toInt8.toInt32).toInt8.toInt32) &&& (255 : Int32)).toInt64) <<< (Int32.toInt64 (8 : Int32) &&& 63)) ||| (((((XT.ushrL v (40 : Int32)).toInt32).toInt8.toInt32).toInt8.toInt32) &&& (255 : Int32)).toInt64) <<< (Int32.toInt64 (8 : Int32) &&& 63)) ||| (((((XT.ushrL v (32 : Int32)).toInt32).toInt8.toInt32).toInt8.toInt32) &&& (255 : Int32)).toInt64) <<< (Int32.toInt64 (8 : Int32) &&& 63)) ||| (((((XT.ushrL v (24 : Int32)).toInt32).toInt8.toInt32).toInt8.toInt32) &&& (255 : Int32)).toInt64) <<< (Int32.toInt64 (8 : Int32) &&& 63)) ||| (((((XT.ushrL v (16 : Int32)).toInt32).toInt8.toInt32).toInt8.toInt32) &&& (255 : Int32)).toInt64) <<< (Int32.toInt64 (8 : Int32) &&& 63)) ||| (((((XT.ushrL v (8 : Int32)).toInt32).toInt8.toInt32).toInt8.toInt32) &&& (255 : Int32)).toInt64) <<< (Int32.toInt64 (8 : Int32) &&& 63)) ||| (v.toInt32.toInt8.toInt32.toInt8.toInt32 &&& (255 : Int32)).toInt64) (12 : Int32)) * (1000 : Int64)) + ((((((((((((((((((((0 : Int64) <<< (Int32.toInt64 (8 : Int32) &&& 63)) ||| (((((XT.ushrL v (56 : Int32)).toInt32).toInt8.toInt32).toInt8.toInt32) &&& (255 : Int32)).toInt64) <<< (Int32.toInt64 (8 : Int32) &&& 63)) ||| (((((XT.ushrL v (48 : Int32)).toInt32).toInt8.toInt32).toInt8.toInt32) &&& (255 : Int32)).toInt64) <<< (Int32.toInt64 (8 : Int32) &&& 63)) ||| (((((XT.ushrL v (40 : Int32)).toInt32).toInt8.toInt32).toInt8.toInt32) &&& (255 : Int32)).toInt64) <<< (Int32.toInt64 (8 : Int32) &&& 63)) ||| (((((XT.ushrL v (32 : Int32)).toInt32).toInt8.toInt32).toInt8.toInt32) &&& (255 : Int32)).toInt64) <<< (Int32.toInt64 (8 : Int32) &&& 63)) ||| (((((XT.ushrL v (24 : Int32)).toInt32).toInt8.toInt32).toInt8.toInt32) &&& (255 : Int32)).toInt64) <<< (Int32.toInt64 (8 : Int32) &&& 63)) ||| (((((XT.ushrL v (16 : Int32)).toInt32).toInt8.toInt32).toInt8.toInt32) &&& (255 : Int32)).toInt64) <<< (Int32.toInt64 (8 : Int32) &&& 63)) ||| (((((XT.ushrL v (8 : Int32)).toInt32).toInt8.toInt32).toInt8.toInt32) &&& (255 : Int32)).toInt64) <<< (Int32.toInt64 (8 : Int32) &&& 63)) ||| (v.toInt32.toInt8.toInt32.toInt8.toInt32 &&& (255 : Int32)).toInt64) &&& (4095 : Int64)) * (1000 : Int64)) / (4096 : Int64))) - (2208988800000000000 : Int64))), .second, .unset, .unset, .unset, .unset, .unset, .unset] (hb hby at_340) rfl ?_
    refine Own.lloadN X32 hx (pc := 342) (hb hby at_342) rfl ?_
    refine Own.bipush X32 hx (pc := 343) (9 : Int32) (hb hby at_343) (by decide) ?_
    refine Own.lushr X32 hx (pc := 345) (hb hby at_345) ?_
    refine Own.lstore X32 hx (pc := 346) #[.val (.long v), .second, .val (.int ep), .val (.long fl), .second, .val (.int off), .val (.int (0 : Int32)), .val (.ref b2), .val (.long ((((XT.ushrL (((((((((((((((((0 : Int64) <<< (Int32.toInt64 (8 : Int32) &&& 63)) ||| (((((XT.ushrL v (56 : Int32)).toInt32).toInt8.toInt32).toInt8.toInt32) &&& (255 : Int32)).toInt64) <<< (Int32.toInt64 (8 : Int32) &&& 63)) ||| (((((XT.ushrL v (48 : Int32)).toInt32).toInt8.toInt32).toInt8.toInt32) &&& (255 : Int32)).toInt64) <<< (Int32.toInt64 (8 : Int32) &&& 63)) ||| (((((XT.ushrL v (40 : Int32)).toInt32).toInt8.toInt32).toInt8.toInt32) &&& (255 : Int32)).toInt64) <<< (Int32.toInt64 (8 : Int32) &&& 63)) ||| (((((XT.ushrL v (32 : Int32)).toInt32).toInt8.toInt32).toInt8.toInt32) &&& (255 : Int32)).toInt64) <<< (Int32.toInt64 (8 : Int32) &&& 63)) ||| (((((XT.ushrL v (24 : Int32)).toInt32).toInt8.toInt32).toInt8.toInt32) &&& (255 : Int32)).toInt64) <<< (Int32.toInt64 (8 : Int32) &&& 63)) ||| (((((XT.ushrL v (16 : Int32)).toInt32).toInt8.toInt32).toInt8.toInt32) &&& (255 : Int32)).toInt64) <<< (Int32.toInt64 (8 : Int32) &&& 63)) ||| (((((XT.ushrL v (8 : Int32)).toInt32).toInt8.toInt32).toInt8.toInt32) &&& (255 : Int32)).toInt64) <<< (Int32.toInt64 (8 : Int32) &&& 63)) ||| (v.toInt32.toInt8.toInt32.toInt8.toInt32 &&& (255 : Int32)).toInt64) (12 : Int32)) * (1000 : Int64)) + ((((((((((((((((((((0 : Int64) <<< (Int32.toInt64 (8 : Int32) &&& 63)) ||| (((((XT.ushrL v (56 : Int32)).toInt32).toInt8.toInt32).toInt8.toInt32) &&& (255 : Int32)).toInt64) <<< (Int32.toInt64 (8 : Int32) &&& 63)) ||| (((((XT.ushrL v (48 : Int32)).toInt32).toInt8.toInt32).toInt8.toInt32) &&& (255 : Int32)).toInt64) <<< (Int32.toInt64 (8 : Int32) &&& 63)) ||| (((((XT.ushrL v (40 : Int32)).toInt32).toInt8.toInt32).toInt8.toInt32) &&& (255 : Int32)).toInt64) <<< (Int32.toInt64 (8 : Int32) &&& 63)) ||| (((((XT.ushrL v (32 : Int32)).toInt32).toInt8.toInt32).toInt8.toInt32) &&& (255 : Int32)).toInt64) <<< (Int32.toInt64 (8 : Int32) &&& 63)) ||| (((((XT.ushrL v (24 : Int32)).toInt32).toInt8.toInt32).toInt8.toInt32) &&& (255 : Int32)).toInt64) <<< (Int32.toInt64 (8 : Int32) &&& 63)) ||| (((((XT.ushrL v (16 : Int32)).toInt32).toInt8.toInt32).toInt8.toInt32) &&& (255 : Int32)).toInt64) <<< (Int32.toInt64 (8 : Int32) &&& 63)) ||| (((((XT.ushrL v (8 : Int32)).toInt32).toInt8.toInt32).toInt8.toInt32) &&& (255 : Int32)).toInt64) <<< (Int32.toInt64 (8 : Int32) &&& 63)) ||| (v.toInt32.toInt8.toInt32.toInt8.toInt32 &&& (255 : Int32)).toInt64) &&& (4095 : Int64)) * (1000 : Int64)) / (4096 : Int64))) - (2208988800000000000 : Int64))), .second, .val (.long (XT.ushrL v (9 : Int32))), .second, .unset, .unset, .unset, .unset] (hb hby at_346) rfl ?_
    refine Own.lloadN X32 hx (pc := 348) (hb hby at_348) rfl ?_
    refine Own.ldc2J X32 hx hZ (pc := 349) hown (Wd hw 12 rfl) (hb hby at_349) ?_
    refine Own.land X32 hx (pc := 352) (hb hby at_352) ?_
    refine Own.lstore X32 hx (pc := 353) #[.val (.long v), .second, .val (.int ep), .val (.long fl), .second, .val (.int off), .val (.int (0 : Int32)), .val (.ref b2), .val (.long ((((XT.ushrL (((((((((((((((((0 : Int64) <<< (Int32.toInt64 (8 : Int32) &&& 63)) ||| (((((XT.ushrL v (56 : Int32)).toInt32).toInt8.toInt32).toInt8.toInt32) &&& (255 : Int32)).toInt64) <<< (Int32.toInt64 (8 : Int32) &&& 63)) ||| (((((XT.ushrL v (48 : Int32)).toInt32).toInt8.toInt32).toInt8.toInt32) &&& (255 : Int32)).toInt64) <<< (Int32.toInt64 (8 : Int32) &&& 63)) ||| (((((XT.ushrL v (40 : Int32)).toInt32).toInt8.toInt32).toInt8.toInt32) &&& (255 : Int32)).toInt64) <<< (Int32.toInt64 (8 : Int32) &&& 63)) ||| (((((XT.ushrL v (32 : Int32)).toInt32).toInt8.toInt32).toInt8.toInt32) &&& (255 : Int32)).toInt64) <<< (Int32.toInt64 (8 : Int32) &&& 63)) ||| (((((XT.ushrL v (24 : Int32)).toInt32).toInt8.toInt32).toInt8.toInt32) &&& (255 : Int32)).toInt64) <<< (Int32.toInt64 (8 : Int32) &&& 63)) ||| (((((XT.ushrL v (16 : Int32)).toInt32).toInt8.toInt32).toInt8.toInt32) &&& (255 : Int32)).toInt64) <<< (Int32.toInt64 (8 : Int32) &&& 63)) ||| (((((XT.ushrL v (8 : Int32)).toInt32).toInt8.toInt32).toInt8.toInt32) &&& (255 : Int32)).toInt64) <<< (Int32.toInt64 (8 : Int32) &&& 63)) ||| (v.toInt32.toInt8.toInt32.toInt8.toInt32 &&& (255 : Int32)).toInt64) (12 : Int32)) * (1000 : Int64)) + ((((((((((((((((((((0 : Int64) <<< (Int32.toInt64 (8 : Int32) &&& 63)) ||| (((((XT.ushrL v (56 : Int32)).toInt32).toInt8.toInt32).toInt8.toInt32) &&& (255 : Int32)).toInt64) <<< (Int32.toInt64 (8 : Int32) &&& 63)) ||| (((((XT.ushrL v (48 : Int32)).toInt32).toInt8.toInt32).toInt8.toInt32) &&& (255 : Int32)).toInt64) <<< (Int32.toInt64 (8 : Int32) &&& 63)) ||| (((((XT.ushrL v (40 : Int32)).toInt32).toInt8.toInt32).toInt8.toInt32) &&& (255 : Int32)).toInt64) <<< (Int32.toInt64 (8 : Int32) &&& 63)) ||| (((((XT.ushrL v (32 : Int32)).toInt32).toInt8.toInt32).toInt8.toInt32) &&& (255 : Int32)).toInt64) <<< (Int32.toInt64 (8 : Int32) &&& 63)) ||| (((((XT.ushrL v (24 : Int32)).toInt32).toInt8.toInt32).toInt8.toInt32) &&& (255 : Int32)).toInt64) <<< (Int32.toInt64 (8 : Int32) &&& 63)) ||| (((((XT.ushrL v (16 : Int32)).toInt32).toInt8.toInt32).toInt8.toInt32) &&& (255 : Int32)).toInt64) <<< (Int32.toInt64 (8 : Int32) &&& 63)) ||| (((((XT.ushrL v (8 : Int32)).toInt32).toInt8.toInt32).toInt8.toInt32) &&& (255 : Int32)).toInt64) <<< (Int32.toInt64 (8 : Int32) &&& 63)) ||| (v.toInt32.toInt8.toInt32.toInt8.toInt32 &&& (255 : Int32)).toInt64) &&& (4095 : Int64)) * (1000 : Int64)) / (4096 : Int64))) - (2208988800000000000 : Int64))), .second, .val (.long (XT.ushrL v (9 : Int32))), .second, .val (.long (v &&& (511 : Int64))), .second, .unset, .unset] (hb hby at_353) rfl ?_
    refine Own.lload X32 hx (pc := 355) (hb hby at_355) rfl ?_
    refine Own.ldc2J X32 hx hZ (pc := 357) hown (Wd hw 13 rfl) (hb hby at_357) ?_
    refine Own.lmul X32 hx (pc := 360) (hb hby at_360) ?_
    refine Own.lload X32 hx (pc := 361) (hb hby at_361) rfl ?_
    refine Own.ldc2J X32 hx hZ (pc := 363) hown (Wd hw 13 rfl) (hb hby at_363) ?_
    refine Own.lmul X32 hx (pc := 366) (hb hby at_366) ?_
    refine Own.ldc2J X32 hx hZ (pc := 367) hown (Wd hw 14 rfl) (hb hby at_367) ?_
    refine Own.ldiv X32 hx (pc := 370) (hb hby at_370) (by decide) ?_
    refine Own.ladd X32 hx (pc := 371) (hb hby at_371) ?_
    refine Own.ldc2J X32 hx hZ (pc := 372) hown (Wd hw 15 rfl) (hb hby at_372) ?_
    refine Own.lsub X32 hx (pc := 375) (hb hby at_375) ?_
    refine Own.lstore X32 hx (pc := 376) #[.val (.long v), .second, .val (.int ep), .val (.long fl), .second, .val (.int off), .val (.int (0 : Int32)), .val (.ref b2), .val (.long ((((XT.ushrL (((((((((((((((((0 : Int64) <<< (Int32.toInt64 (8 : Int32) &&& 63)) ||| (((((XT.ushrL v (56 : Int32)).toInt32).toInt8.toInt32).toInt8.toInt32) &&& (255 : Int32)).toInt64) <<< (Int32.toInt64 (8 : Int32) &&& 63)) ||| (((((XT.ushrL v (48 : Int32)).toInt32).toInt8.toInt32).toInt8.toInt32) &&& (255 : Int32)).toInt64) <<< (Int32.toInt64 (8 : Int32) &&& 63)) ||| (((((XT.ushrL v (40 : Int32)).toInt32).toInt8.toInt32).toInt8.toInt32) &&& (255 : Int32)).toInt64) <<< (Int32.toInt64 (8 : Int32) &&& 63)) ||| (((((XT.ushrL v (32 : Int32)).toInt32).toInt8.toInt32).toInt8.toInt32) &&& (255 : Int32)).toInt64) <<< (Int32.toInt64 (8 : Int32) &&& 63)) ||| (((((XT.ushrL v (24 : Int32)).toInt32).toInt8.toInt32).toInt8.toInt32) &&& (255 : Int32)).toInt64) <<< (Int32.toInt64 (8 : Int32) &&& 63)) ||| (((((XT.ushrL v (16 : Int32)).toInt32).toInt8.toInt32).toInt8.toInt32) &&& (255 : Int32)).toInt64) <<< (Int32.toInt64 (8 : Int32) &&& 63)) ||| (((((XT.ushrL v (8 : Int32)).toInt32).toInt8.toInt32).toInt8.toInt32) &&& (255 : Int32)).toInt64) <<< (Int32.toInt64 (8 : Int32) &&& 63)) ||| (v.toInt32.toInt8.toInt32.toInt8.toInt32 &&& (255 : Int32)).toInt64) (12 : Int32)) * (1000 : Int64)) + ((((((((((((((((((((0 : Int64) <<< (Int32.toInt64 (8 : Int32) &&& 63)) ||| (((((XT.ushrL v (56 : Int32)).toInt32).toInt8.toInt32).toInt8.toInt32) &&& (255 : Int32)).toInt64) <<< (Int32.toInt64 (8 : Int32) &&& 63)) ||| (((((XT.ushrL v (48 : Int32)).toInt32).toInt8.toInt32).toInt8.toInt32) &&& (255 : Int32)).toInt64) <<< (Int32.toInt64 (8 : Int32) &&& 63)) ||| (((((XT.ushrL v (40 : Int32)).toInt32).toInt8.toInt32).toInt8.toInt32) &&& (255 : Int32)).toInt64) <<< (Int32.toInt64 (8 : Int32) &&& 63)) ||| (((((XT.ushrL v (32 : Int32)).toInt32).toInt8.toInt32).toInt8.toInt32) &&& (255 : Int32)).toInt64) <<< (Int32.toInt64 (8 : Int32) &&& 63)) ||| (((((XT.ushrL v (24 : Int32)).toInt32).toInt8.toInt32).toInt8.toInt32) &&& (255 : Int32)).toInt64) <<< (Int32.toInt64 (8 : Int32) &&& 63)) ||| (((((XT.ushrL v (16 : Int32)).toInt32).toInt8.toInt32).toInt8.toInt32) &&& (255 : Int32)).toInt64) <<< (Int32.toInt64 (8 : Int32) &&& 63)) ||| (((((XT.ushrL v (8 : Int32)).toInt32).toInt8.toInt32).toInt8.toInt32) &&& (255 : Int32)).toInt64) <<< (Int32.toInt64 (8 : Int32) &&& 63)) ||| (v.toInt32.toInt8.toInt32.toInt8.toInt32 &&& (255 : Int32)).toInt64) &&& (4095 : Int64)) * (1000 : Int64)) / (4096 : Int64))) - (2208988800000000000 : Int64))), .second, .val (.long (XT.ushrL v (9 : Int32))), .second, .val (.long (v &&& (511 : Int64))), .second, .val (.long ((((XT.ushrL v (9 : Int32)) * (125 : Int64)) + (((v &&& (511 : Int64)) * (125 : Int64)) / (512 : Int64))) - (2208988800000000000 : Int64))), .second] (hb hby at_376) rfl ?_
    refine Own.lload X32 hx (pc := 378) (hb hby at_378) rfl ?_
    refine Own.lload X32 hx (pc := 380) (hb hby at_380) rfl ?_
    refine Own.lcmp X32 hx (pc := 382) (hb hby at_382) ?_
    refine Own.ifNo X32 hx (pc := 383) (hb hby at_383) (XT.ll_ne_f (own_nanos v)) ?_
    refine Own.iconst X32 hx (pc := 386) (1 : Int32) (hb hby at_386) (by decide) ?_
    refine Own.goto X32 hx (pc := 387) 391 (hb hby at_387) (by decide) (by decide) ?_
    exact Own.ireturn X32 hx hk hret (by simp) rfl (hb hby at_391) e32 ⟨rfl, N32⟩ (by decide) (by decide)
  · refine Own.aload X22 hx (pc := 222) (hb hby at_222) rfl rfl ?_
    refine Own.iload X22 hx (pc := 224) (hb hby at_224) rfl ?_
    refine Own.iloadN X22 hx (pc := 226) (hb hby at_226) rfl ?_
    refine Own.i2b X22 hx (pc := 227) (hb hby at_227) ?_
    refine Own.bastore X22 hx hZ (pc := 228) e22 V_b2 1 (by decide) (by decide) (of_decide_eq_true rfl) N22 ge_b2 (hb hby at_228) ?_
    intro T33 h33 X33 e33 W33 N33 V_b2
    replace V_b2 : Own.VArr Z h33 b2 .byte [(.int fl.toInt32.toInt8.toInt32.toInt8.toInt32), (.int ep.toInt8.toInt32.toInt8.toInt32), (.int ((((XT.ushrL fl (6 : Int32)).toInt32).toInt8.toInt32).toInt8.toInt32)), (.int ((((XT.ushrL fl (9 : Int32)).toInt32).toInt8.toInt32).toInt8.toInt32)), (.int ((((XT.ushrL fl (12 : Int32)).toInt32).toInt8.toInt32).toInt8.toInt32)), (.int ((((XT.ushrL fl (15 : Int32)).toInt32).toInt8.toInt32).toInt8.toInt32)), (.int ((((XT.ushrL fl (18 : Int32)).toInt32).toInt8.toInt32).toInt8.toInt32)), (.int ((((XT.ushrL fl (21 : Int32)).toInt32).toInt8.toInt32).toInt8.toInt32)), (.int ((((XT.ushrL fl (24 : Int32)).toInt32).toInt8.toInt32).toInt8.toInt32)), (.int ((((XT.ushrL fl (27 : Int32)).toInt32).toInt8.toInt32).toInt8.toInt32)), (.int ((((XT.ushrL fl (30 : Int32)).toInt32).toInt8.toInt32).toInt8.toInt32)), (.int ((((XT.ushrL fl (33 : Int32)).toInt32).toInt8.toInt32).toInt8.toInt32)), (.int ((((XT.ushrL fl (36 : Int32)).toInt32).toInt8.toInt32).toInt8.toInt32)), (.int ((((XT.ushrL fl (39 : Int32)).toInt32).toInt8.toInt32).toInt8.toInt32)), (.int ((((XT.ushrL fl (42 : Int32)).toInt32).toInt8.toInt32).toInt8.toInt32)), (.int ((((XT.ushrL fl (45 : Int32)).toInt32).toInt8.toInt32).toInt8.toInt32)), (.int ((((XT.ushrL fl (48 : Int32)).toInt32).toInt8.toInt32).toInt8.toInt32)), (.int ((((XT.ushrL fl (51 : Int32)).toInt32).toInt8.toInt32).toInt8.toInt32)), (.int ((((XT.ushrL fl (54 : Int32)).toInt32).toInt8.toInt32).toInt8.toInt32)), (.int ((((XT.ushrL fl (57 : Int32)).toInt32).toInt8.toInt32).toInt8.toInt32))] := V_b2
    have sz33 : n0 ≤ h33.size := Nat.le_trans sz22 (Nat.le_of_eq (Wr.size W33).symm)
    refine Own.aload X33 hx (pc := 229) (hb hby at_229) rfl rfl ?_
    refine Own.iload X33 hx (pc := 231) (hb hby at_231) rfl ?_
    refine Own.iconst X33 hx (pc := 233) (1 : Int32) (hb hby at_233) (by decide) ?_
    refine Own.iadd X33 hx (pc := 234) (hb hby at_234) ?_
    refine Own.topI (show ((1 : Int32) + (1 : Int32)) = (2 : Int32) by decide) ?_
    refine Own.lloadN X33 hx (pc := 235) (hb hby at_235) rfl ?_
    refine Own.bipush X33 hx (pc := 236) (56 : Int32) (hb hby at_236) (by decide) ?_
    refine Own.lushr X33 hx (pc := 238) (hb hby at_238) ?_
    refine Own.l2i X33 hx (pc := 239) (hb hby at_239) ?_
    refine Own.i2b X33 hx (pc := 240) (hb hby at_240) ?_
    refine Own.bastore X33 hx hZ (pc := 241) e33 V_b2 2 (by decide) (by decide) (of_decide_eq_true rfl) N33 ge_b2 (hb hby at_241) ?_
    intro T34 h34 X34 e34 W34 N34 V_b2
    replace V_b2 : Own.VArr Z h34 b2 .byte [(.int fl.toInt32.toInt8.toInt32.toInt8.toInt32), (.int ep.toInt8.toInt32.toInt8.toInt32), (.int ((((XT.ushrL v (56 : Int32)).toInt32).toInt8.toInt32).toInt8.toInt32)), (.int ((((XT.ushrL fl (9 : Int32)).toInt32).toInt8.toInt32).toInt8.toInt32)), (.int ((((XT.ushrL fl (12 : Int32)).toInt32).toInt8.toInt32).toInt8.toInt32)), (.int ((((XT.ushrL fl (15 : Int32)).toInt32).toInt8.toInt32).toInt8.toInt32)), (.int ((((XT.ushrL fl (18 : Int32)).toInt32).toInt8.toInt32).toInt8.toInt32)), (.int ((((XT.ushrL fl (21 : Int32)).toInt32).toInt8.toInt32).toInt8.toInt32)), (.int ((((XT.ushrL fl (24 : Int32)).toInt32).toInt8.toInt32).toInt8.toInt32)), (.int ((((XT.ushrL fl (27 : Int32)).toInt32).toInt8.toInt32).toInt8.toInt32)), (.int ((((XT.ushrL fl (30 : Int32)).toInt32).toInt8.toInt32).toInt8.toInt32)), (.int ((((XT.ushrL fl (33 : Int32)).toInt32).toInt8.toInt32).toInt8.toInt32)), (.int ((((XT.ushrL fl (36 : Int32)).toInt32).toInt8.toInt32).toInt8.toInt32)), (.int ((((XT.ushrL fl (39 : Int32)).toInt32).toInt8.toInt32).toInt8.toInt32)), (.int ((((XT.ushrL fl (42 : Int32)).toInt32).toInt8.toInt32).toInt8.toInt32)), (.int ((((XT.ushrL fl (45 : Int32)).toInt32).toInt8.toInt32).toInt8.toInt32)), (.int ((((XT.ushrL fl (48 : Int32)).toInt32).toInt8.toInt32).toInt8.toInt32)), (.int ((((XT.ushrL fl (51 : Int32)).toInt32).toInt8.toInt32).toInt8.toInt32)), (.int ((((XT.ushrL fl (54 : Int32)).toInt32).toInt8.toInt32).toInt8.toInt32)), (.int ((((XT.ushrL fl (57 : Int32)).toInt32).toInt8.toInt32).toInt8.toInt32))] := V_b2
    have sz34 : n0 ≤ h34.size := Nat.le_trans sz33 (Nat.le_of_eq (Wr.size W34).symm)
    refine Own.aload X34 hx (pc := 242) (hb hby at_242) rfl rfl ?_
    refine Own.iload X34 hx (pc := 244) (hb hby at_244) rfl ?_
    refine Own.iconst X34 hx (pc := 246) (2 : Int32) (hb hby at_246) (by decide) ?_
    refine Own.iadd X34 hx (pc := 247) (hb hby at_247) ?_
    refine Own.topI (show ((1 : Int32) + (2 : Int32)) = (3 : Int32) by decide) ?_
    refine Own.lloadN X34 hx (pc := 248) (hb hby at_248) rfl ?_
    refine Own.bipush X34 hx (pc := 249) (48 : Int32) (hb hby at_249) (by decide) ?_
    refine Own.lushr X34 hx (pc := 251) (hb hby at_251) ?_
    refine Own.l2i X34 hx (pc := 252) (hb hby at_252) ?_
    refine Own.i2b X34 hx (pc := 253) (hb hby at_253) ?_
    refine Own.bastore X34 hx hZ (pc := 254) e34 V_b2 3 (by decide) (by decide) (of_decide_eq_true rfl) N34 ge_b2 (hb hby at_254) ?_
    intro T35 h35 X35 e35 W35 N35 V_b2
    replace V_b2 : Own.VArr Z h35 b2 .byte [(.int fl.toInt32.toInt8.toInt32.toInt8.toInt32), (.int ep.toInt8.toInt32.toInt8.toInt32), (.int ((((XT.ushrL v (56 : Int32)).toInt32).toInt8.toInt32).toInt8.toInt32)), (.int ((((XT.ushrL v (48 : Int32)).toInt32).toInt8.toInt32).toInt8.toInt32)), (.int ((((XT.ushrL fl (12 : Int32)).toInt32).toInt8.toInt32).toInt8.toInt32)), (.int ((((XT.ushrL fl (15 : Int32)).toInt32).toInt8.toInt32).toInt8.toInt32)), (.int ((((XT.ushrL fl (18 : Int32)).toInt32).toInt8.toInt32).toInt8.toInt32)), (.int ((((XT.ushrL fl (21 : Int32)).toInt32).toInt8.toInt32).toInt8.toInt32)), (.int ((((XT.ushrL fl (24 : Int32)).toInt32).toInt8.toInt32).toInt8.toInt32)), (.int ((((XT.ushrL fl (27 : Int32)).toInt32).toInt8.toInt32).toInt8.toInt32)), (.int ((((XT.ushrL fl (30 : Int32)).toInt32).toInt8.toInt32).toInt8.toInt32)), (.int ((((XT.ushrL fl (33 : Int32)).toInt32).toInt8.toInt32).toInt8.toInt32)), (.int ((((XT.ushrL fl (36 : Int32)).toInt32).toInt8.toInt32).toInt8.toInt32)), (.int ((((XT.ushrL fl (39 : Int32)).toInt32).toInt8.toInt32).toInt8.toInt32)), (.int ((((XT.ushrL fl (42 : Int32)).toInt32).toInt8.toInt32).toInt8.toInt32)), (.int ((((XT.ushrL fl (45 : Int32)).toInt32).toInt8.toInt32).toInt8.toInt32)), (.int ((((XT.ushrL fl (48 : Int32)).toInt32).toInt8.toInt32).toInt8.toInt32)), (.int ((((XT.ushrL fl (51 : Int32)).toInt32).toInt8.toInt32).toInt8.toInt32)), (.int ((((XT.ushrL fl (54 : Int32)).toInt32).toInt8.toInt32).toInt8.toInt32)), (.int ((((XT.ushrL fl (57 : Int32)).toInt32).toInt8.toInt32).toInt8.toInt32))] := V_b2
    have sz35 : n0 ≤ h35.size := Nat.le_trans sz34 (Nat.le_of_eq (Wr.size W35).symm)
    refine Own.aload X35 hx (pc := 255) (hb hby at_255) rfl rfl ?_
    refine Own.iload X35 hx (pc := 257) (hb hby at_257) rfl ?_
    refine Own.iconst X35 hx (pc := 259) (3 : Int32) (hb hby at_259) (by decide) ?_
    refine Own.iadd X35 hx (pc := 260) (hb hby at_260) ?_
    refine Own.topI (show ((1 : Int32) + (3 : Int32)) = (4 : Int32) by decide) ?_
    refine Own.lloadN X35 hx (pc := 261) (hb hby at_261) rfl ?_
    refine Own.bipush X35 hx (pc := 262) (40 : Int32) (hb hby at_262) (by decide) ?_
    refine Own.lushr X35 hx (pc := 264) (hb hby at_264) ?_
    refine Own.l2i X35 hx (pc := 265) (hb hby at_265) ?_
    refine Own.i2b X35 hx (pc := 266) (hb hby at_266) ?_
    refine Own.bastore X35 hx hZ (pc := 267) e35 V_b2 4 (by decide) (by decide) (of_decide_eq_true rfl) N35 ge_b2 (hb hby at_267) ?_
    intro T36 h36 X36 e36 W36 N36 V_b2
    replace V_b2 : Own.VArr Z h36 b2 .byte [(.int fl.toInt32.toInt8.toInt32.toInt8.toInt32), (.int ep.toInt8.toInt32.toInt8.toInt32), (.int ((((XT.ushrL v (56 : Int32)).toInt32).toInt8.toInt32).toInt8.toInt32)), (.int ((((XT.ushrL v (48 : Int32)).toInt32).toInt8.toInt32).toInt8.toInt32)), (.int ((((XT.ushrL v (40 : Int32)).toInt32).toInt8.toInt32).toInt8.toInt32)), (.int ((((XT.ushrL fl (15 : Int32)).toInt32).toInt8.toInt32).toInt8.toInt32)), (.int ((((XT.ushrL fl (18 : Int32)).toInt32).toInt8.toInt32).toInt8.toInt32)), (.int ((((XT.ushrL fl (21 : Int32)).toInt32).toInt8.toInt32).toInt8.toInt32)), (.int ((((XT.ushrL fl (24 : Int32)).toInt32).toInt8.toInt32).toInt8.toInt32)), (.int ((((XT.ushrL fl (27 : Int32)).toInt32).toInt8.toInt32).toInt8.toInt32)), (.int ((((XT.ushrL fl (30 : Int32)).toInt32).toInt8.toInt32).toInt8.toInt32)), (.int ((((XT.ushrL fl (33 : Int32)).toInt32).toInt8.toInt32).toInt8.toInt32)), (.int ((((XT.ushrL fl (36 : Int32)).toInt32).toInt8.toInt32).toInt8.toInt32)), (.int ((((XT.ushrL fl (39 : Int32)).toInt32).toInt8.toInt32).toInt8.toInt32)), (.int ((((XT.ushrL fl (42 : Int32)).toInt32).toInt8.toInt32).toInt8.toInt32)), (.int ((((XT.ushrL fl (45 : Int32)).toInt32).toInt8.toInt32).toInt8.toInt32)), (.int ((((XT.ushrL fl (48 : Int32)).toInt32).toInt8.toInt32).toInt8.toInt32)), (.int ((((XT.ushrL fl (51 : Int32)).toInt32).toInt8.toInt32).toInt8.toInt32)), (.int ((((XT.ushrL fl (54 : Int32)).toInt32).toInt8.toInt32).toInt8.toInt32)), (.int ((((XT.ushrL fl (57 : Int32)).toInt32).toInt8.toInt32).toInt8.toInt32))] := V_b2
    have sz36 : n0 ≤ h36.size := Nat.le_trans sz35 (Nat.le_of_eq (Wr.size W36).symm)
    refine Own.aload X36 hx (pc := 268) (hb hby at_268) rfl rfl ?_
    refine Own.iload X36 hx (pc := 270) (hb hby at_270) rfl ?_
    refine Own.iconst X36 hx (pc := 272) (4 : Int32) (hb hby at_272) (by decide) ?_
    refine Own.iadd X36 hx (pc := 273) (hb hby at_273) ?_
    refine Own.topI (show ((1 : Int32) + (4 : Int32)) = (5 : Int32) by decide) ?_
    refine Own.lloadN X36 hx (pc := 274) (hb hby at_274) rfl ?_
    refine Own.bipush X36 hx (pc := 275) (32 : Int32) (hb hby at_275) (by decide) ?_
    refine Own.lushr X36 hx (pc := 277) (hb hby at_277) ?_
    refine Own.l2i X36 hx (pc := 278) (hb hby at_278) ?_
    refine Own.i2b X36 hx (pc := 279) (hb hby at_279) ?_
    refine Own.bastore X36 hx hZ (pc := 280) e36 V_b2 5 (by decide) (by decide) (of_decide_eq_true rfl) N36 ge_b2 (hb hby at_280) ?_
    intro T37 h37 X37 e37 W37 N37 V_b2
    replace V_b2 : Own.VArr Z h37 b2 .byte [(.int fl.toInt32.toInt8.toInt32.toInt8.toInt32), (.int ep.toInt8.toInt32.toInt8.toInt32), (.int ((((XT.ushrL v (56 : Int32)).toInt32).toInt8.toInt32).toInt8.toInt32)), (.int ((((XT.ushrL v (48 : Int32)).toInt32).toInt8.toInt32).toInt8.toInt32)), (.int ((((XT.ushrL v (40 : Int32)).toInt32).toInt8.toInt32).toInt8.toInt32)), (.int ((((XT.ushrL v (32 : Int32)).toInt32).toInt8.toInt32).toInt8.toInt32)), (.int ((((XT.ushrL fl (18 : Int32)).toInt32).toInt8.toInt32).toInt8.toInt32)), (.int ((((XT.ushrL fl (21 : Int32)).toInt32).toInt8.toInt32).toInt8.toInt32)), (.int ((((XT.ushrL fl (24 : Int32)).toInt32).toInt8.toInt32).toInt8.toInt32)), (.int ((((XT.ushrL fl (27 : Int32)).toInt32).toInt8.toInt32).toInt8.toInt32)), (.int ((((XT.ushrL fl (30 : Int32)).toInt32).toInt8.toInt32).toInt8.toInt32)), (.int ((((XT.ushrL fl (33 : Int32)).toInt32).toInt8.toInt32).toInt8.toInt32)), (.int ((((XT.ushrL fl (36 : Int32)).toInt32).toInt8.toInt32).toInt8.toInt32)), (.int ((((XT.ushrL fl (39 : Int32)).toInt32).toInt8.toInt32).toInt8.toInt32)), (.int ((((XT.ushrL fl (42 : Int32)).toInt32).toInt8.toInt32).toInt8.toInt32)), (.int ((((XT.ushrL fl (45 : Int32)).toInt32).toInt8.toInt32).toInt8.toInt32)), (.int ((((XT.ushrL fl (48 : Int32)).toInt32).toInt8.toInt32).toInt8.toInt32)), (.int ((((XT.ushrL fl (51 : Int32)).toInt32).toInt8.toInt32).toInt8.toInt32)), (.int ((((XT.ushrL fl (54 : Int32)).toInt32).toInt8.toInt32).toInt8.toInt32)), (.int ((((XT.ushrL fl (57 : Int32)).toInt32).toInt8.toInt32).toInt8.toInt32))] := V_b2
    have sz37 : n0 ≤ h37.size := Nat.le_trans sz36 (Nat.le_of_eq (Wr.size W37).symm)
    refine Own.aload X37 hx (pc := 281) (hb hby at_281) rfl rfl ?_
    refine Own.iload X37 hx (pc := 283) (hb hby at_283) rfl ?_
    refine Own.iconst X37 hx (pc := 285) (5 : Int32) (hb hby at_285) (by decide) ?_
    refine Own.iadd X37 hx (pc := 286) (hb hby at_286) ?_
    refine Own.topI (show ((1 : Int32) + (5 : Int32)) = (6 : Int32) by decide) ?_
    refine Own.lloadN X37 hx (pc := 287) (hb hby at_287) rfl ?_
    refine Own.bipush X37 hx (pc := 288) (24 : Int32) (hb hby at_288) (by decide) ?_
    refine Own.lushr X37 hx (pc := 290) (hb hby at_290) ?_
    refine Own.l2i X37 hx (pc := 291) (hb hby at_291) ?_
    refine Own.i2b X37 hx (pc := 292) (hb hby at_292) ?_
    refine Own.bastore X37 hx hZ (pc := 293) e37 V_b2 6 (by decide) (by decide) (of_decide_eq_true rfl) N37 ge_b2 (hb hby at_293) ?_
    intro T38 h38 X38 e38 W38 N38 V_b2
    replace V_b2 : Own.VArr Z h38 b2 .byte [(.int fl.toInt32.toInt8.toInt32.toInt8.toInt32), (.int ep.toInt8.toInt32.toInt8.toInt32), (.int ((((XT.ushrL v (56 : Int32)).toInt32).toInt8.toInt32).toInt8.toInt32)), (.int ((((XT.ushrL v (48 : Int32)).toInt32).toInt8.toInt32).toInt8.toInt32)), (.int ((((XT.ushrL v (40 : Int32)).toInt32).toInt8.toInt32).toInt8.toInt32)), (.int ((((XT.ushrL v (32 : Int32)).toInt32).toInt8.toInt32).toInt8.toInt32)), (.int ((((XT.ushrL v (24 : Int32)).toInt32).toInt8.toInt32).toInt8.toInt32)), (.int ((((XT.ushrL fl (21 : Int32)).toInt32).toInt8.toInt32).toInt8.toInt32)), (.int ((((XT.ushrL fl (24 : Int32)).toInt32).toInt8.toInt32).toInt8.toInt32)), (.int ((((XT.ushrL fl (27 : Int32)).toInt32).toInt8.toInt32).toInt8.toInt32)), (.int ((((XT.ushrL fl (30 : Int32)).toInt32).toInt8.toInt32).toInt8.toInt32)), (.int ((((XT.ushrL fl (33 : Int32)).toInt32).toInt8.toInt32).toInt8.toInt32)), (.int ((((XT.ushrL fl (36 : Int32)).toInt32).toInt8.toInt32).toInt8.toInt32)), (.int ((((XT.ushrL fl (39 : Int32)).toInt32).toInt8.toInt32).toInt8.toInt32)), (.int ((((XT.ushrL fl (42 : Int32)).toInt32).toInt8.toInt32).toInt8.toInt32)), (.int ((((XT.ushrL fl (45 : Int32)).toInt32).toInt8.toInt32).toInt8.toInt32)), (.int ((((XT.ushrL fl (48 : Int32)).toInt32).toInt8.toInt32).toInt8.toInt32)), (.int ((((XT.ushrL fl (51 : Int32)).toInt32).toInt8.toInt32).toInt8.toInt32)), (.int ((((XT.ushrL fl (54 : Int32)).toInt32).toInt8.toInt32).toInt8.toInt32)), (.int ((((XT.ushrL fl (57 : Int32)).toInt32).toInt8.toInt32).toInt8.toInt32))] := V_b2
    have sz38 : n0 ≤ h38.size := Nat.le_trans sz37 (Nat.le_of_eq (Wr.size W38).symm)
    refine Own.aload X38 hx (pc := 294) (hb hby at_294) rfl rfl ?_
    refine Own.iload X38 hx (pc := 296) (hb hby at_296) rfl ?_
    refine Own.bipush X38 hx (pc := 298) (6 : Int32) (hb hby at_298) (by decide) ?_
    refine Own.iadd X38 hx (pc := 300) (hb hby at_300) ?_
    refine Own.topI (show ((1 : Int32) + (6 : Int32)) = (7 : Int32) by decide) ?_
    refine Own.lloadN X38 hx (pc := 301) (hb hby at_301) rfl ?_
    refine Own.bipush X38 hx (pc := 302) (16 : Int32) (hb hby at_302) (by decide) ?_
    refine Own.lushr X38 hx (pc := 304) (hb hby at_304) ?_
    refine Own.l2i X38 hx (pc := 305) (hb hby at_305) ?_
    refine Own.i2b X38 hx (pc := 306) (hb hby at_306) ?_
    refine Own.bastore X38 hx hZ (pc := 307) e38 V_b2 7 (by decide) (by decide) (of_decide_eq_true rfl) N38 ge_b2 (hb hby at_307) ?_
    intro T39 h39 X39 e39 W39 N39 V_b2
    replace V_b2 : Own.VArr Z h39 b2 .byte [(.int fl.toInt32.toInt8.toInt32.toInt8.toInt32), (.int ep.toInt8.toInt32.toInt8.toInt32), (.int ((((XT.ushrL v (56 : Int32)).toInt32).toInt8.toInt32).toInt8.toInt32)), (.int ((((XT.ushrL v (48 : Int32)).toInt32).toInt8.toInt32).toInt8.toInt32)), (.int ((((XT.ushrL v (40 : Int32)).toInt32).toInt8.toInt32).toInt8.toInt32)), (.int ((((XT.ushrL v (32 : Int32)).toInt32).toInt8.toInt32).toInt8.toInt32)), (.int ((((XT.ushrL v (24 : Int32)).toInt32).toInt8.toInt32).toInt8.toInt32)), (.int ((((XT.ushrL v (16 : Int32)).toInt32).toInt8.toInt32).toInt8.toInt32)), (.int ((((XT.ushrL fl (24 : Int32)).toInt32).toInt8.toInt32).toInt8.toInt32)), (.int ((((XT.ushrL fl (27 : Int32)).toInt32).toInt8.toInt32).toInt8.toInt32)), (.int ((((XT.ushrL fl (30 : Int32)).toInt32).toInt8.toInt32).toInt8.toInt32)), (.int ((((XT.ushrL fl (33 : Int32)).toInt32).toInt8.toInt32).toInt8.toInt32)), (.int ((((XT.ushrL fl (36 : Int32)).toInt32).toInt8.toInt32).toInt8.toInt32)), (.int ((((XT.ushrL fl (39 : Int32)).toInt32).toInt8.toInt32).toInt8.toInt32)), (.int ((((XT.ushrL fl (42 : Int32)).toInt32).toInt8.toInt32).toInt8.toInt32)), (.int ((((XT.ushrL fl (45 : Int32)).toInt32).toInt8.toInt32).toInt8.toInt32)), (.int ((((XT.ushrL fl (48 : Int32)).toInt32).toInt8.toInt32).toInt8.toInt32)), (.int ((((XT.ushrL fl (51 : Int32)).toInt32).toInt8.toInt32).toInt8.toInt32)), (.int ((((XT.ushrL fl (54 : Int32)).toInt32).toInt8.toInt32).toInt8.toInt32)), (.int ((((XT.ushrL fl (57 : Int32)).toInt32).toInt8.toInt32).toInt8.toInt32))] := V_b2
    have sz39 : n0 ≤ h39.size := Nat.le_trans sz38 (Nat.le_of_eq (Wr.size W39).symm)
    refine Own.aload X39 hx (pc := 308) (hb hby at_308) rfl rfl ?_
    refine Own.iload X39 hx (pc := 310) (hb hby at_310) rfl ?_
    refine Own.bipush X39 hx (pc := 312) (7 : Int32) (hb hby at_312) (by decide) ?_
    refine Own.iadd X39 hx (pc := 314) (hb hby at_314) ?_
    refine Own.topI (show ((1 : Int32) + (7 : Int32)) = (8 : Int32) by decide) ?_
    refine Own.lloadN X39 hx (pc := 315) (hb hby at_315) rfl ?_
    refine Own.bipush X39 hx (pc := 316) (8 : Int32) (hb hby at_316) (by decide) ?_
    refine Own.lushr X39 hx (pc := 318) (hb hby at_318) ?_
    refine Own.l2i X39 hx (pc := 319) (hb hby at_319) ?_
    refine Own.i2b X39 hx (pc := 320) (hb hby at_320) ?_
    refine Own.bastore X39 hx hZ (pc := 321) e39 V_b2 8 (by decide) (by decide) (of_decide_eq_true rfl) N39 ge_b2 (hb hby at_321) ?_
    intro T40 h40 X40 e40 W40 N40 V_b2
    replace V_b2 : Own.VArr Z h40 b2 .byte [(.int fl.toInt32.toInt8.toInt32.toInt8.toInt32), (.int ep.toInt8.toInt32.toInt8.toInt32), (.int ((((XT.ushrL v (56 : Int32)).toInt32).toInt8.toInt32).toInt8.toInt32)), (.int ((((XT.ushrL v (48 : Int32)).toInt32).toInt8.toInt32).toInt8.toInt32)), (.int ((((XT.ushrL v (40 : Int32)).toInt32).toInt8.toInt32).toInt8.toInt32)), (.int ((((XT.ushrL v (32 : Int32)).toInt32).toInt8.toInt32).toInt8.toInt32)), (.int ((((XT.ushrL v (24 : Int32)).toInt32).toInt8.toInt32).toInt8.toInt32)), (.int ((((XT.ushrL v (16 : Int32)).toInt32).toInt8.toInt32).toInt8.toInt32)), (.int ((((XT.ushrL v (8 : Int32)).toInt32).toInt8.toInt32).toInt8.toInt32)), (.int ((((XT.ushrL fl (27 : Int32)).toInt32).toInt8.toInt32).toInt8.toInt32)), (.int ((((XT.ushrL fl (30 : Int32)).toInt32).toInt8.toInt32).toInt8.toInt32)), (.int ((((XT.ushrL fl (33 : Int32)).toInt32).toInt8.toInt32).toInt8.toInt32)), (.int ((((XT.ushrL fl (36 : Int32)).toInt32).toInt8.toInt32).toInt8.toInt32)), (.int ((((XT.ushrL fl (39 : Int32)).toInt32).toInt8.toInt32).toInt8.toInt32)), (.int ((((XT.ushrL fl (42 : Int32)).toInt32).toInt8.toInt32).toInt8.toInt32)), (.int ((((XT.ushrL fl (45 : Int32)).toInt32).toInt8.toInt32).toInt8.toInt32)), (.int ((((XT.ushrL fl (48 : Int32)).toInt32).toInt8.toInt32).toInt8.toInt32)), (.int ((((XT.ushrL fl (51 : Int32)).toInt32).toInt8.toInt32).toInt8.toInt32)), (.int ((((XT.ushrL fl (54 : Int32)).toInt32).toInt8.toInt32).toInt8.toInt32)), (.int ((((XT.ushrL fl (57 : Int32)).toInt32).toInt8.toInt32).toInt8.toInt32))] := V_b2
    have sz40 : n0 ≤ h40.size := Nat.le_trans sz39 (Nat.le_of_eq (Wr.size W40).symm)
    refine Own.aload X40 hx (pc := 322) (hb hby at_322) rfl rfl ?_
    refine Own.iload X40 hx (pc := 324) (hb hby at_324) rfl ?_
    refine Own.bipush X40 hx (pc := 326) (8 : Int32) (hb hby at_326) (by decide) ?_
    refine Own.iadd X40 hx (pc := 328) (hb hby at_328) ?_
    refine Own.topI (show ((1 : Int32) + (8 : Int32)) = (9 : Int32) by decide) ?_
    refine Own.lloadN X40 hx (pc := 329) (hb hby at_329) rfl ?_
    refine Own.l2i X40 hx (pc := 330) (hb hby at_330) ?_
    refine Own.i2b X40 hx (pc := 331) (hb hby at_331) ?_
    refine Own.bastore X40 hx hZ (pc := 332) e40 V_b2 9 (by decide) (by decide) (of_decide_eq_true rfl) N40 ge_b2 (hb hby at_332) ?_
    intro T41 h41 X41 e41 W41 N41 V_b2
    replace V_b2 : Own.VArr Z h41 b2 .byte [(.int fl.toInt32.toInt8.toInt32.toInt8.toInt32), (.int ep.toInt8.toInt32.toInt8.toInt32), (.int ((((XT.ushrL v (56 : Int32)).toInt32).toInt8.toInt32).toInt8.toInt32)), (.int ((((XT.ushrL v (48 : Int32)).toInt32).toInt8.toInt32).toInt8.toInt32)), (.int ((((XT.ushrL v (40 : Int32)).toInt32).toInt8.toInt32).toInt8.toInt32)), (.int ((((XT.ushrL v (32 : Int32)).toInt32).toInt8.toInt32).toInt8.toInt32)), (.int ((((XT.ushrL v (24 : Int32)).toInt32).toInt8.toInt32).toInt8.toInt32)), (.int ((((XT.ushrL v (16 : Int32)).toInt32).toInt8.toInt32).toInt8.toInt32)), (.int ((((XT.ushrL v (8 : Int32)).toInt32).toInt8.toInt32).toInt8.toInt32)), (.int v.toInt32.toInt8.toInt32.toInt8.toInt32), (.int ((((XT.ushrL fl (30 : Int32)).toInt32).toInt8.toInt32).toInt8.toInt32)), (.int ((((XT.ushrL fl (33 : Int32)).toInt32).toInt8.toInt32).toInt8.toInt32)), (.int ((((XT.ushrL fl (36 : Int32)).toInt32).toInt8.toInt32).toInt8.toInt32)), (.int ((((XT.ushrL fl (39 : Int32)).toInt32).toInt8.toInt32).toInt8.toInt32)), (.int ((((XT.ushrL fl (42 : Int32)).toInt32).toInt8.toInt32).toInt8.toInt32)), (.int ((((XT.ushrL fl (45 : Int32)).toInt32).toInt8.toInt32).toInt8.toInt32)), (.int ((((XT.ushrL fl (48 : Int32)).toInt32).toInt8.toInt32).toInt8.toInt32)), (.int ((((XT.ushrL fl (51 : Int32)).toInt32).toInt8.toInt32).toInt8.toInt32)), (.int ((((XT.ushrL fl (54 : Int32)).toInt32).toInt8.toInt32).toInt8.toInt32)), (.int ((((XT.ushrL fl (57 : Int32)).toInt32).toInt8.toInt32).toInt8.toInt32))] := V_b2
    have sz41 : n0 ≤ h41.size := Nat.le_trans sz40 (Nat.le_of_eq (Wr.size W41).symm)
    refine Own.aload X41 hx (pc := 333) (hb hby at_333) rfl rfl ?_
    refine Own.iload X41 hx (pc := 335) (hb hby at_335) rfl ?_
    refine Own.callStatic X41 hx hZ (pc := 337) (y := (⟨"com/example/traceloom/traceloom/smf/Stcke", "unixNanos", "([BI)J"⟩ : MethodName)) hown (Wd hw 1 rfl) (Wd hw 2 rfl) (Wd hw 3 rfl) (Wd hw 4 rfl) (by decide) 0 [(.ref b2), (.int (1 : Int32))] [] (rm1 l Z a0 hw b2 (1 : Int32) ([(.int fl.toInt32.toInt8.toInt32.toInt8.toInt32), (.int ep.toInt8.toInt32.toInt8.toInt32), (.int ((((XT.ushrL v (56 : Int32)).toInt32).toInt8.toInt32).toInt8.toInt32)), (.int ((((XT.ushrL v (48 : Int32)).toInt32).toInt8.toInt32).toInt8.toInt32)), (.int ((((XT.ushrL v (40 : Int32)).toInt32).toInt8.toInt32).toInt8.toInt32)), (.int ((((XT.ushrL v (32 : Int32)).toInt32).toInt8.toInt32).toInt8.toInt32)), (.int ((((XT.ushrL v (24 : Int32)).toInt32).toInt8.toInt32).toInt8.toInt32)), (.int ((((XT.ushrL v (16 : Int32)).toInt32).toInt8.toInt32).toInt8.toInt32)), (.int ((((XT.ushrL v (8 : Int32)).toInt32).toInt8.toInt32).toInt8.toInt32)), (.int v.toInt32.toInt8.toInt32.toInt8.toInt32), (.int ((((XT.ushrL fl (30 : Int32)).toInt32).toInt8.toInt32).toInt8.toInt32)), (.int ((((XT.ushrL fl (33 : Int32)).toInt32).toInt8.toInt32).toInt8.toInt32)), (.int ((((XT.ushrL fl (36 : Int32)).toInt32).toInt8.toInt32).toInt8.toInt32)), (.int ((((XT.ushrL fl (39 : Int32)).toInt32).toInt8.toInt32).toInt8.toInt32)), (.int ((((XT.ushrL fl (42 : Int32)).toInt32).toInt8.toInt32).toInt8.toInt32)), (.int ((((XT.ushrL fl (45 : Int32)).toInt32).toInt8.toInt32).toInt8.toInt32)), (.int ((((XT.ushrL fl (48 : Int32)).toInt32).toInt8.toInt32).toInt8.toInt32)), (.int ((((XT.ushrL fl (51 : Int32)).toInt32).toInt8.toInt32).toInt8.toInt32)), (.int ((((XT.ushrL fl (54 : Int32)).toInt32).toInt8.toInt32).toInt8.toInt32)), (.int ((((XT.ushrL fl (57 : Int32)).toInt32).toInt8.toInt32).toInt8.toInt32))]) ((((XT.ushrL v (56 : Int32)).toInt32).toInt8.toInt32).toInt8.toInt32) ((((XT.ushrL v (48 : Int32)).toInt32).toInt8.toInt32).toInt8.toInt32) ((((XT.ushrL v (40 : Int32)).toInt32).toInt8.toInt32).toInt8.toInt32) ((((XT.ushrL v (32 : Int32)).toInt32).toInt8.toInt32).toInt8.toInt32) ((((XT.ushrL v (24 : Int32)).toInt32).toInt8.toInt32).toInt8.toInt32) ((((XT.ushrL v (16 : Int32)).toInt32).toInt8.toInt32).toInt8.toInt32) ((((XT.ushrL v (8 : Int32)).toInt32).toInt8.toInt32).toInt8.toInt32) v.toInt32.toInt8.toInt32.toInt8.toInt32 h41 n0 sz41 V_b2 (by decide) rfl (by decide) rfl (by decide) rfl (by decide) rfl (by decide) rfl (by decide) rfl (by decide) rfl (by decide) rfl) (by decide) (by decide) e41 (by rw [hml]; rfl) pd1 rfl rfl (Nat.le_of_eq rfl) (hb hby at_337) (by decide) (by decide) ?_
    intro T42 L42 v42 X42 hQ42
    obtain ⟨rfl, Nq42, e42⟩ := hQ42
    have N42 := Fr.app N41 Nq42
    show Own.Go p e below _ (T42.setTop (mkF m 340 #[.val (.long v), .second, .val (.int ep), .val (.long fl), .second, .val (.int off), .val (.int (1 : Int32)), .val (.ref b2), .unset, .unset, .unset, .unset, .unset, .unset, .unset, .unset] [(.long ((((XT.ushrL (((((((((((((((((0 : Int64) <<< (Int32.toInt64 (8 : Int32) &&& 63)) ||| (((((XT.ushrL v (56 : Int32)).toInt32).toInt8.toInt32).toInt8.toInt32) &&& (255 : Int32)).toInt64) <<< (Int32.toInt64 (8 : Int32) &&& 63)) ||| (((((XT.ushrL v (48 : Int32)).toInt32).toInt8.toInt32).toInt8.toInt32) &&& (255 : Int32)).toInt64) <<< (Int32.toInt64 (8 : Int32) &&& 63)) ||| (((((XT.ushrL v (40 : Int32)).toInt32).toInt8.toInt32).toInt8.toInt32) &&& (255 : Int32)).toInt64) <<< (Int32.toInt64 (8 : Int32) &&& 63)) ||| (((((XT.ushrL v (32 : Int32)).toInt32).toInt8.toInt32).toInt8.toInt32) &&& (255 : Int32)).toInt64) <<< (Int32.toInt64 (8 : Int32) &&& 63)) ||| (((((XT.ushrL v (24 : Int32)).toInt32).toInt8.toInt32).toInt8.toInt32) &&& (255 : Int32)).toInt64) <<< (Int32.toInt64 (8 : Int32) &&& 63)) ||| (((((XT.ushrL v (16 : Int32)).toInt32).toInt8.toInt32).toInt8.toInt32) &&& (255 : Int32)).toInt64) <<< (Int32.toInt64 (8 : Int32) &&& 63)) ||| (((((XT.ushrL v (8 : Int32)).toInt32).toInt8.toInt32).toInt8.toInt32) &&& (255 : Int32)).toInt64) <<< (Int32.toInt64 (8 : Int32) &&& 63)) ||| (v.toInt32.toInt8.toInt32.toInt8.toInt32 &&& (255 : Int32)).toInt64) (12 : Int32)) * (1000 : Int64)) + ((((((((((((((((((((0 : Int64) <<< (Int32.toInt64 (8 : Int32) &&& 63)) ||| (((((XT.ushrL v (56 : Int32)).toInt32).toInt8.toInt32).toInt8.toInt32) &&& (255 : Int32)).toInt64) <<< (Int32.toInt64 (8 : Int32) &&& 63)) ||| (((((XT.ushrL v (48 : Int32)).toInt32).toInt8.toInt32).toInt8.toInt32) &&& (255 : Int32)).toInt64) <<< (Int32.toInt64 (8 : Int32) &&& 63)) ||| (((((XT.ushrL v (40 : Int32)).toInt32).toInt8.toInt32).toInt8.toInt32) &&& (255 : Int32)).toInt64) <<< (Int32.toInt64 (8 : Int32) &&& 63)) ||| (((((XT.ushrL v (32 : Int32)).toInt32).toInt8.toInt32).toInt8.toInt32) &&& (255 : Int32)).toInt64) <<< (Int32.toInt64 (8 : Int32) &&& 63)) ||| (((((XT.ushrL v (24 : Int32)).toInt32).toInt8.toInt32).toInt8.toInt32) &&& (255 : Int32)).toInt64) <<< (Int32.toInt64 (8 : Int32) &&& 63)) ||| (((((XT.ushrL v (16 : Int32)).toInt32).toInt8.toInt32).toInt8.toInt32) &&& (255 : Int32)).toInt64) <<< (Int32.toInt64 (8 : Int32) &&& 63)) ||| (((((XT.ushrL v (8 : Int32)).toInt32).toInt8.toInt32).toInt8.toInt32) &&& (255 : Int32)).toInt64) <<< (Int32.toInt64 (8 : Int32) &&& 63)) ||| (v.toInt32.toInt8.toInt32.toInt8.toInt32 &&& (255 : Int32)).toInt64) &&& (4095 : Int64)) * (1000 : Int64)) / (4096 : Int64))) - (2208988800000000000 : Int64)))]))
    refine Own.lstore X42 hx (pc := 340) #[.val (.long v), .second, .val (.int ep), .val (.long fl), .second, .val (.int off), .val (.int (1 : Int32)), .val (.ref b2), .val (.long ((((XT.ushrL (((((((((((((((((0 : Int64) <<< (Int32.toInt64 (8 : Int32) &&& 63)) ||| (((((XT.ushrL v (56 : Int32)).toInt32).toInt8.toInt32).toInt8.toInt32) &&& (255 : Int32)).toInt64) <<< (Int32.toInt64 (8 : Int32) &&& 63)) ||| (((((XT.ushrL v (48 : Int32)).toInt32).toInt8.toInt32).toInt8.toInt32) &&& (255 : Int32)).toInt64) <<< (Int32.toInt64 (8 : Int32) &&& 63)) ||| (((((XT.ushrL v (40 : Int32)).toInt32).toInt8.toInt32).toInt8.toInt32) &&& (255 : Int32)).toInt64) <<< (Int32.toInt64 (8 : Int32) &&& 63)) ||| (((((XT.ushrL v (32 : Int32)).toInt32).toInt8.toInt32).toInt8.toInt32) &&& (255 : Int32)).toInt64) <<< (Int32.toInt64 (8 : Int32) &&& 63)) ||| (((((XT.ushrL v (24 : Int32)).toInt32).toInt8.toInt32).toInt8.toInt32) &&& (255 : Int32)).toInt64) <<< (Int32.toInt64 (8 : Int32) &&& 63)) ||| (((((XT.ushrL v (16 : Int32)).toInt32).toInt8.toInt32).toInt8.toInt32) &&& (255 : Int32)).toInt64) <<< (Int32.toInt64 (8 : Int32) &&& 63)) ||| (((((XT.ushrL v (8 : Int32)).toInt32).toInt8.toInt32).toInt8.toInt32) &&& (255 : Int32)).toInt64) <<< (Int32.toInt64 (8 : Int32) &&& 63)) ||| (v.toInt32.toInt8.toInt32.toInt8.toInt32 &&& (255 : Int32)).toInt64) (12 : Int32)) * (1000 : Int64)) + ((((((((((((((((((((0 : Int64) <<< (Int32.toInt64 (8 : Int32) &&& 63)) ||| (((((XT.ushrL v (56 : Int32)).toInt32).toInt8.toInt32).toInt8.toInt32) &&& (255 : Int32)).toInt64) <<< (Int32.toInt64 (8 : Int32) &&& 63)) ||| (((((XT.ushrL v (48 : Int32)).toInt32).toInt8.toInt32).toInt8.toInt32) &&& (255 : Int32)).toInt64) <<< (Int32.toInt64 (8 : Int32) &&& 63)) ||| (((((XT.ushrL v (40 : Int32)).toInt32).toInt8.toInt32).toInt8.toInt32) &&& (255 : Int32)).toInt64) <<< (Int32.toInt64 (8 : Int32) &&& 63)) ||| (((((XT.ushrL v (32 : Int32)).toInt32).toInt8.toInt32).toInt8.toInt32) &&& (255 : Int32)).toInt64) <<< (Int32.toInt64 (8 : Int32) &&& 63)) ||| (((((XT.ushrL v (24 : Int32)).toInt32).toInt8.toInt32).toInt8.toInt32) &&& (255 : Int32)).toInt64) <<< (Int32.toInt64 (8 : Int32) &&& 63)) ||| (((((XT.ushrL v (16 : Int32)).toInt32).toInt8.toInt32).toInt8.toInt32) &&& (255 : Int32)).toInt64) <<< (Int32.toInt64 (8 : Int32) &&& 63)) ||| (((((XT.ushrL v (8 : Int32)).toInt32).toInt8.toInt32).toInt8.toInt32) &&& (255 : Int32)).toInt64) <<< (Int32.toInt64 (8 : Int32) &&& 63)) ||| (v.toInt32.toInt8.toInt32.toInt8.toInt32 &&& (255 : Int32)).toInt64) &&& (4095 : Int64)) * (1000 : Int64)) / (4096 : Int64))) - (2208988800000000000 : Int64))), .second, .unset, .unset, .unset, .unset, .unset, .unset] (hb hby at_340) rfl ?_
    refine Own.lloadN X42 hx (pc := 342) (hb hby at_342) rfl ?_
    refine Own.bipush X42 hx (pc := 343) (9 : Int32) (hb hby at_343) (by decide) ?_
    refine Own.lushr X42 hx (pc := 345) (hb hby at_345) ?_
    refine Own.lstore X42 hx (pc := 346) #[.val (.long v), .second, .val (.int ep), .val (.long fl), .second, .val (.int off), .val (.int (1 : Int32)), .val (.ref b2), .val (.long ((((XT.ushrL (((((((((((((((((0 : Int64) <<< (Int32.toInt64 (8 : Int32) &&& 63)) ||| (((((XT.ushrL v (56 : Int32)).toInt32).toInt8.toInt32).toInt8.toInt32) &&& (255 : Int32)).toInt64) <<< (Int32.toInt64 (8 : Int32) &&& 63)) ||| (((((XT.ushrL v (48 : Int32)).toInt32).toInt8.toInt32).toInt8.toInt32) &&& (255 : Int32)).toInt64) <<< (Int32.toInt64 (8 : Int32) &&& 63)) ||| (((((XT.ushrL v (40 : Int32)).toInt32).toInt8.toInt32).toInt8.toInt32) &&& (255 : Int32)).toInt64) <<< (Int32.toInt64 (8 : Int32) &&& 63)) ||| (((((XT.ushrL v (32 : Int32)).toInt32).toInt8.toInt32).toInt8.toInt32) &&& (255 : Int32)).toInt64) <<< (Int32.toInt64 (8 : Int32) &&& 63)) ||| (((((XT.ushrL v (24 : Int32)).toInt32).toInt8.toInt32).toInt8.toInt32) &&& (255 : Int32)).toInt64) <<< (Int32.toInt64 (8 : Int32) &&& 63)) ||| (((((XT.ushrL v (16 : Int32)).toInt32).toInt8.toInt32).toInt8.toInt32) &&& (255 : Int32)).toInt64) <<< (Int32.toInt64 (8 : Int32) &&& 63)) ||| (((((XT.ushrL v (8 : Int32)).toInt32).toInt8.toInt32).toInt8.toInt32) &&& (255 : Int32)).toInt64) <<< (Int32.toInt64 (8 : Int32) &&& 63)) ||| (v.toInt32.toInt8.toInt32.toInt8.toInt32 &&& (255 : Int32)).toInt64) (12 : Int32)) * (1000 : Int64)) + ((((((((((((((((((((0 : Int64) <<< (Int32.toInt64 (8 : Int32) &&& 63)) ||| (((((XT.ushrL v (56 : Int32)).toInt32).toInt8.toInt32).toInt8.toInt32) &&& (255 : Int32)).toInt64) <<< (Int32.toInt64 (8 : Int32) &&& 63)) ||| (((((XT.ushrL v (48 : Int32)).toInt32).toInt8.toInt32).toInt8.toInt32) &&& (255 : Int32)).toInt64) <<< (Int32.toInt64 (8 : Int32) &&& 63)) ||| (((((XT.ushrL v (40 : Int32)).toInt32).toInt8.toInt32).toInt8.toInt32) &&& (255 : Int32)).toInt64) <<< (Int32.toInt64 (8 : Int32) &&& 63)) ||| (((((XT.ushrL v (32 : Int32)).toInt32).toInt8.toInt32).toInt8.toInt32) &&& (255 : Int32)).toInt64) <<< (Int32.toInt64 (8 : Int32) &&& 63)) ||| (((((XT.ushrL v (24 : Int32)).toInt32).toInt8.toInt32).toInt8.toInt32) &&& (255 : Int32)).toInt64) <<< (Int32.toInt64 (8 : Int32) &&& 63)) ||| (((((XT.ushrL v (16 : Int32)).toInt32).toInt8.toInt32).toInt8.toInt32) &&& (255 : Int32)).toInt64) <<< (Int32.toInt64 (8 : Int32) &&& 63)) ||| (((((XT.ushrL v (8 : Int32)).toInt32).toInt8.toInt32).toInt8.toInt32) &&& (255 : Int32)).toInt64) <<< (Int32.toInt64 (8 : Int32) &&& 63)) ||| (v.toInt32.toInt8.toInt32.toInt8.toInt32 &&& (255 : Int32)).toInt64) &&& (4095 : Int64)) * (1000 : Int64)) / (4096 : Int64))) - (2208988800000000000 : Int64))), .second, .val (.long (XT.ushrL v (9 : Int32))), .second, .unset, .unset, .unset, .unset] (hb hby at_346) rfl ?_
    refine Own.lloadN X42 hx (pc := 348) (hb hby at_348) rfl ?_
    refine Own.ldc2J X42 hx hZ (pc := 349) hown (Wd hw 12 rfl) (hb hby at_349) ?_
    refine Own.land X42 hx (pc := 352) (hb hby at_352) ?_
    refine Own.lstore X42 hx (pc := 353) #[.val (.long v), .second, .val (.int ep), .val (.long fl), .second, .val (.int off), .val (.int (1 : Int32)), .val (.ref b2), .val (.long ((((XT.ushrL (((((((((((((((((0 : Int64) <<< (Int32.toInt64 (8 : Int32) &&& 63)) ||| (((((XT.ushrL v (56 : Int32)).toInt32).toInt8.toInt32).toInt8.toInt32) &&& (255 : Int32)).toInt64) <<< (Int32.toInt64 (8 : Int32) &&& 63)) ||| (((((XT.ushrL v (48 : Int32)).toInt32).toInt8.toInt32).toInt8.toInt32) &&& (255 : Int32)).toInt64) <<< (Int32.toInt64 (8 : Int32) &&& 63)) ||| (((((XT.ushrL v (40 : Int32)).toInt32).toInt8.toInt32).toInt8.toInt32) &&& (255 : Int32)).toInt64) <<< (Int32.toInt64 (8 : Int32) &&& 63)) ||| (((((XT.ushrL v (32 : Int32)).toInt32).toInt8.toInt32).toInt8.toInt32) &&& (255 : Int32)).toInt64) <<< (Int32.toInt64 (8 : Int32) &&& 63)) ||| (((((XT.ushrL v (24 : Int32)).toInt32).toInt8.toInt32).toInt8.toInt32) &&& (255 : Int32)).toInt64) <<< (Int32.toInt64 (8 : Int32) &&& 63)) ||| (((((XT.ushrL v (16 : Int32)).toInt32).toInt8.toInt32).toInt8.toInt32) &&& (255 : Int32)).toInt64) <<< (Int32.toInt64 (8 : Int32) &&& 63)) ||| (((((XT.ushrL v (8 : Int32)).toInt32).toInt8.toInt32).toInt8.toInt32) &&& (255 : Int32)).toInt64) <<< (Int32.toInt64 (8 : Int32) &&& 63)) ||| (v.toInt32.toInt8.toInt32.toInt8.toInt32 &&& (255 : Int32)).toInt64) (12 : Int32)) * (1000 : Int64)) + ((((((((((((((((((((0 : Int64) <<< (Int32.toInt64 (8 : Int32) &&& 63)) ||| (((((XT.ushrL v (56 : Int32)).toInt32).toInt8.toInt32).toInt8.toInt32) &&& (255 : Int32)).toInt64) <<< (Int32.toInt64 (8 : Int32) &&& 63)) ||| (((((XT.ushrL v (48 : Int32)).toInt32).toInt8.toInt32).toInt8.toInt32) &&& (255 : Int32)).toInt64) <<< (Int32.toInt64 (8 : Int32) &&& 63)) ||| (((((XT.ushrL v (40 : Int32)).toInt32).toInt8.toInt32).toInt8.toInt32) &&& (255 : Int32)).toInt64) <<< (Int32.toInt64 (8 : Int32) &&& 63)) ||| (((((XT.ushrL v (32 : Int32)).toInt32).toInt8.toInt32).toInt8.toInt32) &&& (255 : Int32)).toInt64) <<< (Int32.toInt64 (8 : Int32) &&& 63)) ||| (((((XT.ushrL v (24 : Int32)).toInt32).toInt8.toInt32).toInt8.toInt32) &&& (255 : Int32)).toInt64) <<< (Int32.toInt64 (8 : Int32) &&& 63)) ||| (((((XT.ushrL v (16 : Int32)).toInt32).toInt8.toInt32).toInt8.toInt32) &&& (255 : Int32)).toInt64) <<< (Int32.toInt64 (8 : Int32) &&& 63)) ||| (((((XT.ushrL v (8 : Int32)).toInt32).toInt8.toInt32).toInt8.toInt32) &&& (255 : Int32)).toInt64) <<< (Int32.toInt64 (8 : Int32) &&& 63)) ||| (v.toInt32.toInt8.toInt32.toInt8.toInt32 &&& (255 : Int32)).toInt64) &&& (4095 : Int64)) * (1000 : Int64)) / (4096 : Int64))) - (2208988800000000000 : Int64))), .second, .val (.long (XT.ushrL v (9 : Int32))), .second, .val (.long (v &&& (511 : Int64))), .second, .unset, .unset] (hb hby at_353) rfl ?_
    refine Own.lload X42 hx (pc := 355) (hb hby at_355) rfl ?_
    refine Own.ldc2J X42 hx hZ (pc := 357) hown (Wd hw 13 rfl) (hb hby at_357) ?_
    refine Own.lmul X42 hx (pc := 360) (hb hby at_360) ?_
    refine Own.lload X42 hx (pc := 361) (hb hby at_361) rfl ?_
    refine Own.ldc2J X42 hx hZ (pc := 363) hown (Wd hw 13 rfl) (hb hby at_363) ?_
    refine Own.lmul X42 hx (pc := 366) (hb hby at_366) ?_
    refine Own.ldc2J X42 hx hZ (pc := 367) hown (Wd hw 14 rfl) (hb hby at_367) ?_
    refine Own.ldiv X42 hx (pc := 370) (hb hby at_370) (by decide) ?_
    refine Own.ladd X42 hx (pc := 371) (hb hby at_371) ?_
    refine Own.ldc2J X42 hx hZ (pc := 372) hown (Wd hw 15 rfl) (hb hby at_372) ?_
    refine Own.lsub X42 hx (pc := 375) (hb hby at_375) ?_
    refine Own.lstore X42 hx (pc := 376) #[.val (.long v), .second, .val (.int ep), .val (.long fl), .second, .val (.int off), .val (.int (1 : Int32)), .val (.ref b2), .val (.long ((((XT.ushrL (((((((((((((((((0 : Int64) <<< (Int32.toInt64 (8 : Int32) &&& 63)) ||| (((((XT.ushrL v (56 : Int32)).toInt32).toInt8.toInt32).toInt8.toInt32) &&& (255 : Int32)).toInt64) <<< (Int32.toInt64 (8 : Int32) &&& 63)) ||| (((((XT.ushrL v (48 : Int32)).toInt32).toInt8.toInt32).toInt8.toInt32) &&& (255 : Int32)).toInt64) <<< (Int32.toInt64 (8 : Int32) &&& 63)) ||| (((((XT.ushrL v (40 : Int32)).toInt32).toInt8.toInt32).toInt8.toInt32) &&& (255 : Int32)).toInt64) <<< (Int32.toInt64 (8 : Int32) &&& 63)) ||| (((((XT.ushrL v (32 : Int32)).toInt32).toInt8.toInt32).toInt8.toInt32) &&& (255 : Int32)).toInt64) <<< (Int32.toInt64 (8 : Int32) &&& 63)) ||| (((((XT.ushrL v (24 : Int32)).toInt32).toInt8.toInt32).toInt8.toInt32) &&& (255 : Int32)).toInt64) <<< (Int32.toInt64 (8 : Int32) &&& 63)) ||| (((((XT.ushrL v (16 : Int32)).toInt32).toInt8.toInt32).toInt8.toInt32) &&& (255 : Int32)).toInt64) <<< (Int32.toInt64 (8 : Int32) &&& 63)) ||| (((((XT.ushrL v (8 : Int32)).toInt32).toInt8.toInt32).toInt8.toInt32) &&& (255 : Int32)).toInt64) <<< (Int32.toInt64 (8 : Int32) &&& 63)) ||| (v.toInt32.toInt8.toInt32.toInt8.toInt32 &&& (255 : Int32)).toInt64) (12 : Int32)) * (1000 : Int64)) + ((((((((((((((((((((0 : Int64) <<< (Int32.toInt64 (8 : Int32) &&& 63)) ||| (((((XT.ushrL v (56 : Int32)).toInt32).toInt8.toInt32).toInt8.toInt32) &&& (255 : Int32)).toInt64) <<< (Int32.toInt64 (8 : Int32) &&& 63)) ||| (((((XT.ushrL v (48 : Int32)).toInt32).toInt8.toInt32).toInt8.toInt32) &&& (255 : Int32)).toInt64) <<< (Int32.toInt64 (8 : Int32) &&& 63)) ||| (((((XT.ushrL v (40 : Int32)).toInt32).toInt8.toInt32).toInt8.toInt32) &&& (255 : Int32)).toInt64) <<< (Int32.toInt64 (8 : Int32) &&& 63)) ||| (((((XT.ushrL v (32 : Int32)).toInt32).toInt8.toInt32).toInt8.toInt32) &&& (255 : Int32)).toInt64) <<< (Int32.toInt64 (8 : Int32) &&& 63)) ||| (((((XT.ushrL v (24 : Int32)).toInt32).toInt8.toInt32).toInt8.toInt32) &&& (255 : Int32)).toInt64) <<< (Int32.toInt64 (8 : Int32) &&& 63)) ||| (((((XT.ushrL v (16 : Int32)).toInt32).toInt8.toInt32).toInt8.toInt32) &&& (255 : Int32)).toInt64) <<< (Int32.toInt64 (8 : Int32) &&& 63)) ||| (((((XT.ushrL v (8 : Int32)).toInt32).toInt8.toInt32).toInt8.toInt32) &&& (255 : Int32)).toInt64) <<< (Int32.toInt64 (8 : Int32) &&& 63)) ||| (v.toInt32.toInt8.toInt32.toInt8.toInt32 &&& (255 : Int32)).toInt64) &&& (4095 : Int64)) * (1000 : Int64)) / (4096 : Int64))) - (2208988800000000000 : Int64))), .second, .val (.long (XT.ushrL v (9 : Int32))), .second, .val (.long (v &&& (511 : Int64))), .second, .val (.long ((((XT.ushrL v (9 : Int32)) * (125 : Int64)) + (((v &&& (511 : Int64)) * (125 : Int64)) / (512 : Int64))) - (2208988800000000000 : Int64))), .second] (hb hby at_376) rfl ?_
    refine Own.lload X42 hx (pc := 378) (hb hby at_378) rfl ?_
    refine Own.lload X42 hx (pc := 380) (hb hby at_380) rfl ?_
    refine Own.lcmp X42 hx (pc := 382) (hb hby at_382) ?_
    refine Own.ifNo X42 hx (pc := 383) (hb hby at_383) (XT.ll_ne_f (own_nanos v)) ?_
    refine Own.iconst X42 hx (pc := 386) (1 : Int32) (hb hby at_386) (by decide) ?_
    refine Own.goto X42 hx (pc := 387) 391 (hb hby at_387) (by decide) (by decide) ?_
    exact Own.ireturn X42 hx hk hret (by simp) rfl (hb hby at_391) e42 ⟨rfl, N42⟩ (by decide) (by decide)
  · refine Own.aload X22 hx (pc := 222) (hb hby at_222) rfl rfl ?_
    refine Own.iload X22 hx (pc := 224) (hb hby at_224) rfl ?_
    refine Own.iloadN X22 hx (pc := 226) (hb hby at_226) rfl ?_
    refine Own.i2b X22 hx (pc := 227) (hb hby at_227) ?_
    refine Own.bastore X22 hx hZ (pc := 228) e22 V_b2 2 (by decide) (by decide) (of_decide_eq_true rfl) N22 ge_b2 (hb hby at_228) ?_
    intro T43 h43 X43 e43 W43 N43 V_b2
    replace V_b2 : Own.VArr Z h43 b2 .byte [(.int fl.toInt32.toInt8.toInt32.toInt8.toInt32), (.int ((((XT.ushrL fl (3 : Int32)).toInt32).toInt8.toInt32).toInt8.toInt32)), (.int ep.toInt8.toInt32.toInt8.toInt32), (.int ((((XT.ushrL fl (9 : Int32)).toInt32).toInt8.toInt32).toInt8.toInt32)), (.int ((((XT.ushrL fl (12 : Int32)).toInt32).toInt8.toInt32).toInt8.toInt32)), (.int ((((XT.ushrL fl (15 : Int32)).toInt32).toInt8.toInt32).toInt8.toInt32)), (.int ((((XT.ushrL fl (18 : Int32)).toInt32).toInt8.toInt32).toInt8.toInt32)), (.int ((((XT.ushrL fl (21 : Int32)).toInt32).toInt8.toInt32).toInt8.toInt32)), (.int ((((XT.ushrL fl (24 : Int32)).toInt32).toInt8.toInt32).toInt8.toInt32)), (.int ((((XT.ushrL fl (27 : Int32)).toInt32).toInt8.toInt32).toInt8.toInt32)), (.int ((((XT.ushrL fl (30 : Int32)).toInt32).toInt8.toInt32).toInt8.toInt32)), (.int ((((XT.ushrL fl (33 : Int32)).toInt32).toInt8.toInt32).toInt8.toInt32)), (.int ((((XT.ushrL fl (36 : Int32)).toInt32).toInt8.toInt32).toInt8.toInt32)), (.int ((((XT.ushrL fl (39 : Int32)).toInt32).toInt8.toInt32).toInt8.toInt32)), (.int ((((XT.ushrL fl (42 : Int32)).toInt32).toInt8.toInt32).toInt8.toInt32)), (.int ((((XT.ushrL fl (45 : Int32)).toInt32).toInt8.toInt32).toInt8.toInt32)), (.int ((((XT.ushrL fl (48 : Int32)).toInt32).toInt8.toInt32).toInt8.toInt32)), (.int ((((XT.ushrL fl (51 : Int32)).toInt32).toInt8.toInt32).toInt8.toInt32)), (.int ((((XT.ushrL fl (54 : Int32)).toInt32).toInt8.toInt32).toInt8.toInt32)), (.int ((((XT.ushrL fl (57 : Int32)).toInt32).toInt8.toInt32).toInt8.toInt32))] := V_b2
    have sz43 : n0 ≤ h43.size := Nat.le_trans sz22 (Nat.le_of_eq (Wr.size W43).symm)
    refine Own.aload X43 hx (pc := 229) (hb hby at_229) rfl rfl ?_
    refine Own.iload X43 hx (pc := 231) (hb hby at_231) rfl ?_
    refine Own.iconst X43 hx (pc := 233) (1 : Int32) (hb hby at_233) (by decide) ?_
    refine Own.iadd X43 hx (pc := 234) (hb hby at_234) ?_
    refine Own.topI (show ((2 : Int32) + (1 : Int32)) = (3 : Int32) by decide) ?_
    refine Own.lloadN X43 hx (pc := 235) (hb hby at_235) rfl ?_
    refine Own.bipush X43 hx (pc := 236) (56 : Int32) (hb hby at_236) (by decide) ?_
    refine Own.lushr X43 hx (pc := 238) (hb hby at_238) ?_
    refine Own.l2i X43 hx (pc := 239) (hb hby at_239) ?_
    refine Own.i2b X43 hx (pc := 240) (hb hby at_240) ?_
    refine Own.bastore X43 hx hZ (pc := 241) e43 V_b2 3 (by decide) (by decide) (of_decide_eq_true rfl) N43 ge_b2 (hb hby at_241) ?_
    intro T44 h44 X44 e44 W44 N44 V_b2
    replace V_b2 : Own.VArr Z h44 b2 .byte [(.int fl.toInt32.toInt8.toInt32.toInt8.toInt32), (.int ((((XT.ushrL fl (3 : Int32)).toInt32).toInt8.toInt32).toInt8.toInt32)), (.int ep.toInt8.toInt32.toInt8.toInt32), (.int ((((XT.ushrL v (56 : Int32)).toInt32).toInt8.toInt32).toInt8.toInt32)), (.int ((((XT.ushrL fl (12 : Int32)).toInt32).toInt8.toInt32).toInt8.toInt32)), (.int ((((XT.ushrL fl (15 : Int32)).toInt32).toInt8.toInt32).toInt8.toInt32)), (.int ((((XT.ushrL fl (18 : Int32)).toInt32).toInt8.toInt32).toInt8.toInt32)), (.int ((((XT.ushrL fl (21 : Int32)).toInt32).toInt8.toInt32).toInt8.toInt32)), (.int ((((XT.ushrL fl (24 : Int32)).toInt32).toInt8.toInt32).toInt8.toInt32)), (.int ((((XT.ushrL fl (27 : Int32)).toInt32).toInt8.toInt32).toInt8.toInt32)), (.int ((((XT.ushrL fl (30 : Int32)).toInt32).toInt8.toInt32).toInt8.toInt32)), (.int ((((XT.ushrL fl (33 : Int32)).toInt32).toInt8.toInt32).toInt8.toInt32)), (.int ((((XT.ushrL fl (36 : Int32)).toInt32).toInt8.toInt32).toInt8.toInt32)), (.int ((((XT.ushrL fl (39 : Int32)).toInt32).toInt8.toInt32).toInt8.toInt32)), (.int ((((XT.ushrL fl (42 : Int32)).toInt32).toInt8.toInt32).toInt8.toInt32)), (.int ((((XT.ushrL fl (45 : Int32)).toInt32).toInt8.toInt32).toInt8.toInt32)), (.int ((((XT.ushrL fl (48 : Int32)).toInt32).toInt8.toInt32).toInt8.toInt32)), (.int ((((XT.ushrL fl (51 : Int32)).toInt32).toInt8.toInt32).toInt8.toInt32)), (.int ((((XT.ushrL fl (54 : Int32)).toInt32).toInt8.toInt32).toInt8.toInt32)), (.int ((((XT.ushrL fl (57 : Int32)).toInt32).toInt8.toInt32).toInt8.toInt32))] := V_b2
    have sz44 : n0 ≤ h44.size := Nat.le_trans sz43 (Nat.le_of_eq (Wr.size W44).symm)
    refine Own.aload X44 hx (pc := 242) (hb hby at_242) rfl rfl ?_
    refine Own.iload X44 hx (pc := 244) (hb hby at_244) rfl ?_
    refine Own.iconst X44 hx (pc := 246) (2 : Int32) (hb hby at_246) (by decide) ?_
    refine Own.iadd X44 hx (pc := 247) (hb hby at_247) ?_
    refine Own.topI (show ((2 : Int32) + (2 : Int32)) = (4 : Int32) by decide) ?_
    refine Own.lloadN X44 hx (pc := 248) (hb hby at_248) rfl ?_
    refine Own.bipush X44 hx (pc := 249) (48 : Int32) (hb hby at_249) (by decide) ?_
    refine Own.lushr X44 hx (pc := 251) (hb hby at_251) ?_
    refine Own.l2i X44 hx (pc := 252) (hb hby at_252) ?_
    refine Own.i2b X44 hx (pc := 253) (hb hby at_253) ?_
    refine Own.bastore X44 hx hZ (pc := 254) e44 V_b2 4 (by decide) (by decide) (of_decide_eq_true rfl) N44 ge_b2 (hb hby at_254) ?_
    intro T45 h45 X45 e45 W45 N45 V_b2
    replace V_b2 : Own.VArr Z h45 b2 .byte [(.int fl.toInt32.toInt8.toInt32.toInt8.toInt32), (.int ((((XT.ushrL fl (3 : Int32)).toInt32).toInt8.toInt32).toInt8.toInt32)), (.int ep.toInt8.toInt32.toInt8.toInt32), (.int ((((XT.ushrL v (56 : Int32)).toInt32).toInt8.toInt32).toInt8.toInt32)), (.int ((((XT.ushrL v (48 : Int32)).toInt32).toInt8.toInt32).toInt8.toInt32)), (.int ((((XT.ushrL fl (15 : Int32)).toInt32).toInt8.toInt32).toInt8.toInt32)), (.int ((((XT.ushrL fl (18 : Int32)).toInt32).toInt8.toInt32).toInt8.toInt32)), (.int ((((XT.ushrL fl (21 : Int32)).toInt32).toInt8.toInt32).toInt8.toInt32)), (.int ((((XT.ushrL fl (24 : Int32)).toInt32).toInt8.toInt32).toInt8.toInt32)), (.int ((((XT.ushrL fl (27 : Int32)).toInt32).toInt8.toInt32).toInt8.toInt32)), (.int ((((XT.ushrL fl (30 : Int32)).toInt32).toInt8.toInt32).toInt8.toInt32)), (.int ((((XT.ushrL fl (33 : Int32)).toInt32).toInt8.toInt32).toInt8.toInt32)), (.int ((((XT.ushrL fl (36 : Int32)).toInt32).toInt8.toInt32).toInt8.toInt32)), (.int ((((XT.ushrL fl (39 : Int32)).toInt32).toInt8.toInt32).toInt8.toInt32)), (.int ((((XT.ushrL fl (42 : Int32)).toInt32).toInt8.toInt32).toInt8.toInt32)), (.int ((((XT.ushrL fl (45 : Int32)).toInt32).toInt8.toInt32).toInt8.toInt32)), (.int ((((XT.ushrL fl (48 : Int32)).toInt32).toInt8.toInt32).toInt8.toInt32)), (.int ((((XT.ushrL fl (51 : Int32)).toInt32).toInt8.toInt32).toInt8.toInt32)), (.int ((((XT.ushrL fl (54 : Int32)).toInt32).toInt8.toInt32).toInt8.toInt32)), (.int ((((XT.ushrL fl (57 : Int32)).toInt32).toInt8.toInt32).toInt8.toInt32))] := V_b2
    have sz45 : n0 ≤ h45.size := Nat.le_trans sz44 (Nat.le_of_eq (Wr.size W45).symm)
    refine Own.aload X45 hx (pc := 255) (hb hby at_255) rfl rfl ?_
    refine Own.iload X45 hx (pc := 257) (hb hby at_257) rfl ?_
    refine Own.iconst X45 hx (pc := 259) (3 : Int32) (hb hby at_259) (by decide) ?_
    refine Own.iadd X45 hx (pc := 260) (hb hby at_260) ?_
    refine Own.topI (show ((2 : Int32) + (3 : Int32)) = (5 : Int32) by decide) ?_
    refine Own.lloadN X45 hx (pc := 261) (hb hby at_261) rfl ?_
    refine Own.bipush X45 hx (pc := 262) (40 : Int32) (hb hby at_262) (by decide) ?_
    refine Own.lushr X45 hx (pc := 264) (hb hby at_264) ?_
    refine Own.l2i X45 hx (pc := 265) (hb hby at_265) ?_
    refine Own.i2b X45 hx (pc := 266) (hb hby at_266) ?_
    refine Own.bastore X45 hx hZ (pc := 267) e45 V_b2 5 (by decide) (by decide) (of_decide_eq_true rfl) N45 ge_b2 (hb hby at_267) ?_
    intro T46 h46 X46 e46 W46 N46 V_b2
    replace V_b2 : Own.VArr Z h46 b2 .byte [(.int fl.toInt32.toInt8.toInt32.toInt8.toInt32), (.int ((((XT.ushrL fl (3 : Int32)).toInt32).toInt8.toInt32).toInt8.toInt32)), (.int ep.toInt8.toInt32.toInt8.toInt32), (.int ((((XT.ushrL v (56 : Int32)).toInt32).toInt8.toInt32).toInt8.toInt32)), (.int ((((XT.ushrL v (48 : Int32)).toInt32).toInt8.toInt32).toInt8.toInt32)), (.int ((((XT.ushrL v (40 : Int32)).toInt32).toInt8.toInt32).toInt8.toInt32)), (.int ((((XT.ushrL fl (18 : Int32)).toInt32).toInt8.toInt32).toInt8.toInt32)), (.int ((((XT.ushrL fl (21 : Int32)).toInt32).toInt8.toInt32).toInt8.toInt32)), (.int ((((XT.ushrL fl (24 : Int32)).toInt32).toInt8.toInt32).toInt8.toInt32)), (.int ((((XT.ushrL fl (27 : Int32)).toInt32).toInt8.toInt32).toInt8.toInt32)), (.int ((((XT.ushrL fl (30 : Int32)).toInt32).toInt8.toInt32).toInt8.toInt32)), (.int ((((XT.ushrL fl (33 : Int32)).toInt32).toInt8.toInt32).toInt8.toInt32)), (.int ((((XT.ushrL fl (36 : Int32)).toInt32).toInt8.toInt32).toInt8.toInt32)), (.int ((((XT.ushrL fl (39 : Int32)).toInt32).toInt8.toInt32).toInt8.toInt32)), (.int ((((XT.ushrL fl (42 : Int32)).toInt32).toInt8.toInt32).toInt8.toInt32)), (.int ((((XT.ushrL fl (45 : Int32)).toInt32).toInt8.toInt32).toInt8.toInt32)), (.int ((((XT.ushrL fl (48 : Int32)).toInt32).toInt8.toInt32).toInt8.toInt32)), (.int ((((XT.ushrL fl (51 : Int32)).toInt32).toInt8.toInt32).toInt8.toInt32)), (.int ((((XT.ushrL fl (54 : Int32)).toInt32).toInt8.toInt32).toInt8.toInt32)), (.int ((((XT.ushrL fl (57 : Int32)).toInt32).toInt8.toInt32).toInt8.toInt32))] := V_b2
    have sz46 : n0 ≤ h46.size := Nat.le_trans sz45 (Nat.le_of_eq (Wr.size W46).symm)
    refine Own.aload X46 hx (pc := 268) (hb hby at_268) rfl rfl ?_
    refine Own.iload X46 hx (pc := 270) (hb hby at_270) rfl ?_
    refine Own.iconst X46 hx (pc := 272) (4 : Int32) (hb hby at_272) (by decide) ?_
    refine Own.iadd X46 hx (pc := 273) (hb hby at_273) ?_
    refine Own.topI (show ((2 : Int32) + (4 : Int32)) = (6 : Int32) by decide) ?_
    refine Own.lloadN X46 hx (pc := 274) (hb hby at_274) rfl ?_
    refine Own.bipush X46 hx (pc := 275) (32 : Int32) (hb hby at_275) (by decide) ?_
    refine Own.lushr X46 hx (pc := 277) (hb hby at_277) ?_
    refine Own.l2i X46 hx (pc := 278) (hb hby at_278) ?_
    refine Own.i2b X46 hx (pc := 279) (hb hby at_279) ?_
    refine Own.bastore X46 hx hZ (pc := 280) e46 V_b2 6 (by decide) (by decide) (of_decide_eq_true rfl) N46 ge_b2 (hb hby at_280) ?_
    intro T47 h47 X47 e47 W47 N47 V_b2
    replace V_b2 : Own.VArr Z h47 b2 .byte [(.int fl.toInt32.toInt8.toInt32.toInt8.toInt32), (.int ((((XT.ushrL fl (3 : Int32)).toInt32).toInt8.toInt32).toInt8.toInt32)), (.int ep.toInt8.toInt32.toInt8.toInt32), (.int ((((XT.ushrL v (56 : Int32)).toInt32).toInt8.toInt32).toInt8.toInt32)), (.int ((((XT.ushrL v (48 : Int32)).toInt32).toInt8.toInt32).toInt8.toInt32)), (.int ((((XT.ushrL v (40 : Int32)).toInt32).toInt8.toInt32).toInt8.toInt32)), (.int ((((XT.ushrL v (32 : Int32)).toInt32).toInt8.toInt32).toInt8.toInt32)), (.int ((((XT.ushrL fl (21 : Int32)).toInt32).toInt8.toInt32).toInt8.toInt32)), (.int ((((XT.ushrL fl (24 : Int32)).toInt32).toInt8.toInt32).toInt8.toInt32)), (.int ((((XT.ushrL fl (27 : Int32)).toInt32).toInt8.toInt32).toInt8.toInt32)), (.int ((((XT.ushrL fl (30 : Int32)).toInt32).toInt8.toInt32).toInt8.toInt32)), (.int ((((XT.ushrL fl (33 : Int32)).toInt32).toInt8.toInt32).toInt8.toInt32)), (.int ((((XT.ushrL fl (36 : Int32)).toInt32).toInt8.toInt32).toInt8.toInt32)), (.int ((((XT.ushrL fl (39 : Int32)).toInt32).toInt8.toInt32).toInt8.toInt32)), (.int ((((XT.ushrL fl (42 : Int32)).toInt32).toInt8.toInt32).toInt8.toInt32)), (.int ((((XT.ushrL fl (45 : Int32)).toInt32).toInt8.toInt32).toInt8.toInt32)), (.int ((((XT.ushrL fl (48 : Int32)).toInt32).toInt8.toInt32).toInt8.toInt32)), (.int ((((XT.ushrL fl (51 : Int32)).toInt32).toInt8.toInt32).toInt8.toInt32)), (.int ((((XT.ushrL fl (54 : Int32)).toInt32).toInt8.toInt32).toInt8.toInt32)), (.int ((((XT.ushrL fl (57 : Int32)).toInt32).toInt8.toInt32).toInt8.toInt32))] := V_b2
    have sz47 : n0 ≤ h47.size := Nat.le_trans sz46 (Nat.le_of_eq (Wr.size W47).symm)
    refine Own.aload X47 hx (pc := 281) (hb hby at_281) rfl rfl ?_
    refine Own.iload X47 hx (pc := 283) (hb hby at_283) rfl ?_
    refine Own.iconst X47 hx (pc := 285) (5 : Int32) (hb hby at_285) (by decide) ?_
    refine Own.iadd X47 hx (pc := 286) (hb hby at_286) ?_
    refine Own.topI (show ((2 : Int32) + (5 : Int32)) = (7 : Int32) by decide) ?_
    refine Own.lloadN X47 hx (pc := 287) (hb hby at_287) rfl ?_
    refine Own.bipush X47 hx (pc := 288) (24 : Int32) (hb hby at_288) (by decide) ?_
    refine Own.lushr X47 hx (pc := 290) (hb hby at_290) ?_
    refine Own.l2i X47 hx (pc := 291) (hb hby at_291) ?_
    refine Own.i2b X47 hx (pc := 292) (hb hby at_292) ?_
    refine Own.bastore X47 hx hZ (pc := 293) e47 V_b2 7 (by decide) (by decide) (of_decide_eq_true rfl) N47 ge_b2 (hb hby at_293) ?_
    intro T48 h48 X48 e48 W48 N48 V_b2
    replace V_b2 : Own.VArr Z h48 b2 .byte [(.int fl.toInt32.toInt8.toInt32.toInt8.toInt32), (.int ((((XT.ushrL fl (3 : Int32)).toInt32).toInt8.toInt32).toInt8.toInt32)), (.int ep.toInt8.toInt32.toInt8.toInt32), (.int ((((XT.ushrL v (56 : Int32)).toInt32).toInt8.toInt32).toInt8.toInt32)), (.int ((((XT.ushrL v (48 : Int32)).toInt32).toInt8.toInt32).toInt8.toInt32)), (.int ((((XT.ushrL v (40 : Int32)).toInt32).toInt8.toInt32).toInt8.toInt32)), (.int ((((XT.ushrL v (32 : Int32)).toInt32).toInt8.toInt32).toInt8.toInt32)), (.int ((((XT.ushrL v (24 : Int32)).toInt32).toInt8.toInt32).toInt8.toInt32)), (.int ((((XT.ushrL fl (24 : Int32)).toInt32).toInt8.toInt32).toInt8.toInt32)), (.int ((((XT.ushrL fl (27 : Int32)).toInt32).toInt8.toInt32).toInt8.toInt32)), (.int ((((XT.ushrL fl (30 : Int32)).toInt32).toInt8.toInt32).toInt8.toInt32)), (.int ((((XT.ushrL fl (33 : Int32)).toInt32).toInt8.toInt32).toInt8.toInt32)), (.int ((((XT.ushrL fl (36 : Int32)).toInt32).toInt8.toInt32).toInt8.toInt32)), (.int ((((XT.ushrL fl (39 : Int32)).toInt32).toInt8.toInt32).toInt8.toInt32)), (.int ((((XT.ushrL fl (42 : Int32)).toInt32).toInt8.toInt32).toInt8.toInt32)), (.int ((((XT.ushrL fl (45 : Int32)).toInt32).toInt8.toInt32).toInt8.toInt32)), (.int ((((XT.ushrL fl (48 : Int32)).toInt32).toInt8.toInt32).toInt8.toInt32)), (.int ((((XT.ushrL fl (51 : Int32)).toInt32).toInt8.toInt32).toInt8.toInt32)), (.int ((((XT.ushrL fl (54 : Int32)).toInt32).toInt8.toInt32).toInt8.toInt32)), (.int ((((XT.ushrL fl (57 : Int32)).toInt32).toInt8.toInt32).toInt8.toInt32))] := V_b2
    have sz48 : n0 ≤ h48.size := Nat.le_trans sz47 (Nat.le_of_eq (Wr.size W48).symm)
    refine Own.aload X48 hx (pc := 294) (hb hby at_294) rfl rfl ?_
    refine Own.iload X48 hx (pc := 296) (hb hby at_296) rfl ?_
    refine Own.bipush X48 hx (pc := 298) (6 : Int32) (hb hby at_298) (by decide) ?_
    refine Own.iadd X48 hx (pc := 300) (hb hby at_300) ?_
    refine Own.topI (show ((2 : Int32) + (6 : Int32)) = (8 : Int32) by decide) ?_
    refine Own.lloadN X48 hx (pc := 301) (hb hby at_301) rfl ?_
    refine Own.bipush X48 hx (pc := 302) (16 : Int32) (hb hby at_302) (by decide) ?_
    refine Own.lushr X48 hx (pc := 304) (hb hby at_304) ?_
    refine Own.l2i X48 hx (pc := 305) (hb hby at_305) ?_
    refine Own.i2b X48 hx (pc := 306) (hb hby at_306) ?_
    refine Own.bastore X48 hx hZ (pc := 307) e48 V_b2 8 (by decide) (by decide) (of_decide_eq_true rfl) N48 ge_b2 (hb hby at_307) ?_
    intro T49 h49 X49 e49 W49 N49 V_b2
    replace V_b2 : Own.VArr Z h49 b2 .byte [(.int fl.toInt32.toInt8.toInt32.toInt8.toInt32), (.int ((((XT.ushrL fl (3 : Int32)).toInt32).toInt8.toInt32).toInt8.toInt32)), (.int ep.toInt8.toInt32.toInt8.toInt32), (.int ((((XT.ushrL v (56 : Int32)).toInt32).toInt8.toInt32).toInt8.toInt32)), (.int ((((XT.ushrL v (48 : Int32)).toInt32).toInt8.toInt32).toInt8.toInt32)), (.int ((((XT.ushrL v (40 : Int32)).toInt32).toInt8.toInt32).toInt8.toInt32)), (.int ((((XT.ushrL v (32 : Int32)).toInt32).toInt8.toInt32).toInt8.toInt32)), (.int ((((XT.ushrL v (24 : Int32)).toInt32).toInt8.toInt32).toInt8.toInt32)), (.int ((((XT.ushrL v (16 : Int32)).toInt32).toInt8.toInt32).toInt8.toInt32)), (.int ((((XT.ushrL fl (27 : Int32)).toInt32).toInt8.toInt32).toInt8.toInt32)), (.int ((((XT.ushrL fl (30 : Int32)).toInt32).toInt8.toInt32).toInt8.toInt32)), (.int ((((XT.ushrL fl (33 : Int32)).toInt32).toInt8.toInt32).toInt8.toInt32)), (.int ((((XT.ushrL fl (36 : Int32)).toInt32).toInt8.toInt32).toInt8.toInt32)), (.int ((((XT.ushrL fl (39 : Int32)).toInt32).toInt8.toInt32).toInt8.toInt32)), (.int ((((XT.ushrL fl (42 : Int32)).toInt32).toInt8.toInt32).toInt8.toInt32)), (.int ((((XT.ushrL fl (45 : Int32)).toInt32).toInt8.toInt32).toInt8.toInt32)), (.int ((((XT.ushrL fl (48 : Int32)).toInt32).toInt8.toInt32).toInt8.toInt32)), (.int ((((XT.ushrL fl (51 : Int32)).toInt32).toInt8.toInt32).toInt8.toInt32)), (.int ((((XT.ushrL fl (54 : Int32)).toInt32).toInt8.toInt32).toInt8.toInt32)), (.int ((((XT.ushrL fl (57 : Int32)).toInt32).toInt8.toInt32).toInt8.toInt32))] := V_b2
    have sz49 : n0 ≤ h49.size := Nat.le_trans sz48 (Nat.le_of_eq (Wr.size W49).symm)
    refine Own.aload X49 hx (pc := 308) (hb hby at_308) rfl rfl ?_
    refine Own.iload X49 hx (pc := 310) (hb hby at_310) rfl ?_
    refine Own.bipush X49 hx (pc := 312) (7 : Int32) (hb hby at_312) (by decide) ?_
    refine Own.iadd X49 hx (pc := 314) (hb hby at_314) ?_
    refine Own.topI (show ((2 : Int32) + (7 : Int32)) = (9 : Int32) by decide) ?_
    refine Own.lloadN X49 hx (pc := 315) (hb hby at_315) rfl ?_
    refine Own.bipush X49 hx (pc := 316) (8 : Int32) (hb hby at_316) (by decide) ?_
    refine Own.lushr X49 hx (pc := 318) (hb hby at_318) ?_
    refine Own.l2i X49 hx (pc := 319) (hb hby at_319) ?_
    refine Own.i2b X49 hx (pc := 320) (hb hby at_320) ?_
    refine Own.bastore X49 hx hZ (pc := 321) e49 V_b2 9 (by decide) (by decide) (of_decide_eq_true rfl) N49 ge_b2 (hb hby at_321) ?_
    intro T50 h50 X50 e50 W50 N50 V_b2
    replace V_b2 : Own.VArr Z h50 b2 .byte [(.int fl.toInt32.toInt8.toInt32.toInt8.toInt32), (.int ((((XT.ushrL fl (3 : Int32)).toInt32).toInt8.toInt32).toInt8.toInt32)), (.int ep.toInt8.toInt32.toInt8.toInt32), (.int ((((XT.ushrL v (56 : Int32)).toInt32).toInt8.toInt32).toInt8.toInt32)), (.int ((((XT.ushrL v (48 : Int32)).toInt32).toInt8.toInt32).toInt8.toInt32)), (.int ((((XT.ushrL v (40 : Int32)).toInt32).toInt8.toInt32).toInt8.toInt32)), (.int ((((XT.ushrL v (32 : Int32)).toInt32).toInt8.toInt32).toInt8.toInt32)), (.int ((((XT.ushrL v (24 : Int32)).toInt32).toInt8.toInt32).toInt8.toInt32)), (.int ((((XT.ushrL v (16 : Int32)).toInt32).toInt8.toInt32).toInt8.toInt32)), (.int ((((XT.ushrL v (8 : Int32)).toInt32).toInt8.toInt32).toInt8.toInt32)), (.int ((((XT.ushrL fl (30 : Int32)).toInt32).toInt8.toInt32).toInt8.toInt32)), (.int ((((XT.ushrL fl (33 : Int32)).toInt32).toInt8.toInt32).toInt8.toInt32)), (.int ((((XT.ushrL fl (36 : Int32)).toInt32).toInt8.toInt32).toInt8.toInt32)), (.int ((((XT.ushrL fl (39 : Int32)).toInt32).toInt8.toInt32).toInt8.toInt32)), (.int ((((XT.ushrL fl (42 : Int32)).toInt32).toInt8.toInt32).toInt8.toInt32)), (.int ((((XT.ushrL fl (45 : Int32)).toInt32).toInt8.toInt32).toInt8.toInt32)), (.int ((((XT.ushrL fl (48 : Int32)).toInt32).toInt8.toInt32).toInt8.toInt32)), (.int ((((XT.ushrL fl (51 : Int32)).toInt32).toInt8.toInt32).toInt8.toInt32)), (.int ((((XT.ushrL fl (54 : Int32)).toInt32).toInt8.toInt32).toInt8.toInt32)), (.int ((((XT.ushrL fl (57 : Int32)).toInt32).toInt8.toInt32).toInt8.toInt32))] := V_b2
    have sz50 : n0 ≤ h50.size := Nat.le_trans sz49 (Nat.le_of_eq (Wr.size W50).symm)
    refine Own.aload X50 hx (pc := 322) (hb hby at_322) rfl rfl ?_
    refine Own.iload X50 hx (pc := 324) (hb hby at_324) rfl ?_
    refine Own.bipush X50 hx (pc := 326) (8 : Int32) (hb hby at_326) (by decide) ?_
    refine Own.iadd X50 hx (pc := 328) (hb hby at_328) ?_
    refine Own.topI (show ((2 : Int32) + (8 : Int32)) = (10 : Int32) by decide) ?_
    refine Own.lloadN X50 hx (pc := 329) (hb hby at_329) rfl ?_
    refine Own.l2i X50 hx (pc := 330) (hb hby at_330) ?_
    refine Own.i2b X50 hx (pc := 331) (hb hby at_331) ?_
    refine Own.bastore X50 hx hZ (pc := 332) e50 V_b2 10 (by decide) (by decide) (of_decide_eq_true rfl) N50 ge_b2 (hb hby at_332) ?_
    intro T51 h51 X51 e51 W51 N51 V_b2
    replace V_b2 : Own.VArr Z h51 b2 .byte [(.int fl.toInt32.toInt8.toInt32.toInt8.toInt32), (.int ((((XT.ushrL fl (3 : Int32)).toInt32).toInt8.toInt32).toInt8.toInt32)), (.int ep.toInt8.toInt32.toInt8.toInt32), (.int ((((XT.ushrL v (56 : Int32)).toInt32).toInt8.toInt32).toInt8.toInt32)), (.int ((((XT.ushrL v (48 : Int32)).toInt32).toInt8.toInt32).toInt8.toInt32)), (.int ((((XT.ushrL v (40 : Int32)).toInt32).toInt8.toInt32).toInt8.toInt32)), (.int ((((XT.ushrL v (32 : Int32)).toInt32).toInt8.toInt32).toInt8.toInt32)), (.int ((((XT.ushrL v (24 : Int32)).toInt32).toInt8.toInt32).toInt8.toInt32)), (.int ((((XT.ushrL v (16 : Int32)).toInt32).toInt8.toInt32).toInt8.toInt32)), (.int ((((XT.ushrL v (8 : Int32)).toInt32).toInt8.toInt32).toInt8.toInt32)), (.int v.toInt32.toInt8.toInt32.toInt8.toInt32), (.int ((((XT.ushrL fl (33 : Int32)).toInt32).toInt8.toInt32).toInt8.toInt32)), (.int ((((XT.ushrL fl (36 : Int32)).toInt32).toInt8.toInt32).toInt8.toInt32)), (.int ((((XT.ushrL fl (39 : Int32)).toInt32).toInt8.toInt32).toInt8.toInt32)), (.int ((((XT.ushrL fl (42 : Int32)).toInt32).toInt8.toInt32).toInt8.toInt32)), (.int ((((XT.ushrL fl (45 : Int32)).toInt32).toInt8.toInt32).toInt8.toInt32)), (.int ((((XT.ushrL fl (48 : Int32)).toInt32).toInt8.toInt32).toInt8.toInt32)), (.int ((((XT.ushrL fl (51 : Int32)).toInt32).toInt8.toInt32).toInt8.toInt32)), (.int ((((XT.ushrL fl (54 : Int32)).toInt32).toInt8.toInt32).toInt8.toInt32)), (.int ((((XT.ushrL fl (57 : Int32)).toInt32).toInt8.toInt32).toInt8.toInt32))] := V_b2
    have sz51 : n0 ≤ h51.size := Nat.le_trans sz50 (Nat.le_of_eq (Wr.size W51).symm)
    refine Own.aload X51 hx (pc := 333) (hb hby at_333) rfl rfl ?_
    refine Own.iload X51 hx (pc := 335) (hb hby at_335) rfl ?_
    refine Own.callStatic X51 hx hZ (pc := 337) (y := (⟨"com/example/traceloom/traceloom/smf/Stcke", "unixNanos", "([BI)J"⟩ : MethodName)) hown (Wd hw 1 rfl) (Wd hw 2 rfl) (Wd hw 3 rfl) (Wd hw 4 rfl) (by decide) 0 [(.ref b2), (.int (2 : Int32))] [] (rm1 l Z a0 hw b2 (2 : Int32) ([(.int fl.toInt32.toInt8.toInt32.toInt8.toInt32), (.int ((((XT.ushrL fl (3 : Int32)).toInt32).toInt8.toInt32).toInt8.toInt32)), (.int ep.toInt8.toInt32.toInt8.toInt32), (.int ((((XT.ushrL v (56 : Int32)).toInt32).toInt8.toInt32).toInt8.toInt32)), (.int ((((XT.ushrL v (48 : Int32)).toInt32).toInt8.toInt32).toInt8.toInt32)), (.int ((((XT.ushrL v (40 : Int32)).toInt32).toInt8.toInt32).toInt8.toInt32)), (.int ((((XT.ushrL v (32 : Int32)).toInt32).toInt8.toInt32).toInt8.toInt32)), (.int ((((XT.ushrL v (24 : Int32)).toInt32).toInt8.toInt32).toInt8.toInt32)), (.int ((((XT.ushrL v (16 : Int32)).toInt32).toInt8.toInt32).toInt8.toInt32)), (.int ((((XT.ushrL v (8 : Int32)).toInt32).toInt8.toInt32).toInt8.toInt32)), (.int v.toInt32.toInt8.toInt32.toInt8.toInt32), (.int ((((XT.ushrL fl (33 : Int32)).toInt32).toInt8.toInt32).toInt8.toInt32)), (.int ((((XT.ushrL fl (36 : Int32)).toInt32).toInt8.toInt32).toInt8.toInt32)), (.int ((((XT.ushrL fl (39 : Int32)).toInt32).toInt8.toInt32).toInt8.toInt32)), (.int ((((XT.ushrL fl (42 : Int32)).toInt32).toInt8.toInt32).toInt8.toInt32)), (.int ((((XT.ushrL fl (45 : Int32)).toInt32).toInt8.toInt32).toInt8.toInt32)), (.int ((((XT.ushrL fl (48 : Int32)).toInt32).toInt8.toInt32).toInt8.toInt32)), (.int ((((XT.ushrL fl (51 : Int32)).toInt32).toInt8.toInt32).toInt8.toInt32)), (.int ((((XT.ushrL fl (54 : Int32)).toInt32).toInt8.toInt32).toInt8.toInt32)), (.int ((((XT.ushrL fl (57 : Int32)).toInt32).toInt8.toInt32).toInt8.toInt32))]) ((((XT.ushrL v (56 : Int32)).toInt32).toInt8.toInt32).toInt8.toInt32) ((((XT.ushrL v (48 : Int32)).toInt32).toInt8.toInt32).toInt8.toInt32) ((((XT.ushrL v (40 : Int32)).toInt32).toInt8.toInt32).toInt8.toInt32) ((((XT.ushrL v (32 : Int32)).toInt32).toInt8.toInt32).toInt8.toInt32) ((((XT.ushrL v (24 : Int32)).toInt32).toInt8.toInt32).toInt8.toInt32) ((((XT.ushrL v (16 : Int32)).toInt32).toInt8.toInt32).toInt8.toInt32) ((((XT.ushrL v (8 : Int32)).toInt32).toInt8.toInt32).toInt8.toInt32) v.toInt32.toInt8.toInt32.toInt8.toInt32 h51 n0 sz51 V_b2 (by decide) rfl (by decide) rfl (by decide) rfl (by decide) rfl (by decide) rfl (by decide) rfl (by decide) rfl (by decide) rfl) (by decide) (by decide) e51 (by rw [hml]; rfl) pd1 rfl rfl (Nat.le_of_eq rfl) (hb hby at_337) (by decide) (by decide) ?_
    intro T52 L52 v52 X52 hQ52
    obtain ⟨rfl, Nq52, e52⟩ := hQ52
    have N52 := Fr.app N51 Nq52
    show Own.Go p e below _ (T52.setTop (mkF m 340 #[.val (.long v), .second, .val (.int ep), .val (.long fl), .second, .val (.int off), .val (.int (2 : Int32)), .val (.ref b2), .unset, .unset, .unset, .unset, .unset, .unset, .unset, .unset] [(.long ((((XT.ushrL (((((((((((((((((0 : Int64) <<< (Int32.toInt64 (8 : Int32) &&& 63)) ||| (((((XT.ushrL v (56 : Int32)).toInt32).toInt8.toInt32).toInt8.toInt32) &&& (255 : Int32)).toInt64) <<< (Int32.toInt64 (8 : Int32) &&& 63)) ||| (((((XT.ushrL v (48 : Int32)).toInt32).toInt8.toInt32).toInt8.toInt32) &&& (255 : Int32)).toInt64) <<< (Int32.toInt64 (8 : Int32) &&& 63)) ||| (((((XT.ushrL v (40 : Int32)).toInt32).toInt8.toInt32).toInt8.toInt32) &&& (255 : Int32)).toInt64) <<< (Int32.toInt64 (8 : Int32) &&& 63)) ||| (((((XT.ushrL v (32 : Int32)).toInt32).toInt8.toInt32).toInt8.toInt32) &&& (255 : Int32)).toInt64) <<< (Int32.toInt64 (8 : Int32) &&& 63)) ||| (((((XT.ushrL v (24 : Int32)).toInt32).toInt8.toInt32).toInt8.toInt32) &&& (255 : Int32)).toInt64) <<< (Int32.toInt64 (8 : Int32) &&& 63)) ||| (((((XT.ushrL v (16 : Int32)).toInt32).toInt8.toInt32).toInt8.toInt32) &&& (255 : Int32)).toInt64) <<< (Int32.toInt64 (8 : Int32) &&& 63)) ||| (((((XT.ushrL v (8 : Int32)).toInt32).toInt8.toInt32).toInt8.toInt32) &&& (255 : Int32)).toInt64) <<< (Int32.toInt64 (8 : Int32) &&& 63)) ||| (v.toInt32.toInt8.toInt32.toInt8.toInt32 &&& (255 : Int32)).toInt64) (12 : Int32)) * (1000 : Int64)) + ((((((((((((((((((((0 : Int64) <<< (Int32.toInt64 (8 : Int32) &&& 63)) ||| (((((XT.ushrL v (56 : Int32)).toInt32).toInt8.toInt32).toInt8.toInt32) &&& (255 : Int32)).toInt64) <<< (Int32.toInt64 (8 : Int32) &&& 63)) ||| (((((XT.ushrL v (48 : Int32)).toInt32).toInt8.toInt32).toInt8.toInt32) &&& (255 : Int32)).toInt64) <<< (Int32.toInt64 (8 : Int32) &&& 63)) ||| (((((XT.ushrL v (40 : Int32)).toInt32).toInt8.toInt32).toInt8.toInt32) &&& (255 : Int32)).toInt64) <<< (Int32.toInt64 (8 : Int32) &&& 63)) ||| (((((XT.ushrL v (32 : Int32)).toInt32).toInt8.toInt32).toInt8.toInt32) &&& (255 : Int32)).toInt64) <<< (Int32.toInt64 (8 : Int32) &&& 63)) ||| (((((XT.ushrL v (24 : Int32)).toInt32).toInt8.toInt32).toInt8.toInt32) &&& (255 : Int32)).toInt64) <<< (Int32.toInt64 (8 : Int32) &&& 63)) ||| (((((XT.ushrL v (16 : Int32)).toInt32).toInt8.toInt32).toInt8.toInt32) &&& (255 : Int32)).toInt64) <<< (Int32.toInt64 (8 : Int32) &&& 63)) ||| (((((XT.ushrL v (8 : Int32)).toInt32).toInt8.toInt32).toInt8.toInt32) &&& (255 : Int32)).toInt64) <<< (Int32.toInt64 (8 : Int32) &&& 63)) ||| (v.toInt32.toInt8.toInt32.toInt8.toInt32 &&& (255 : Int32)).toInt64) &&& (4095 : Int64)) * (1000 : Int64)) / (4096 : Int64))) - (2208988800000000000 : Int64)))]))
    refine Own.lstore X52 hx (pc := 340) #[.val (.long v), .second, .val (.int ep), .val (.long fl), .second, .val (.int off), .val (.int (2 : Int32)), .val (.ref b2), .val (.long ((((XT.ushrL (((((((((((((((((0 : Int64) <<< (Int32.toInt64 (8 : Int32) &&& 63)) ||| (((((XT.ushrL v (56 : Int32)).toInt32).toInt8.toInt32).toInt8.toInt32) &&& (255 : Int32)).toInt64) <<< (Int32.toInt64 (8 : Int32) &&& 63)) ||| (((((XT.ushrL v (48 : Int32)).toInt32).toInt8.toInt32).toInt8.toInt32) &&& (255 : Int32)).toInt64) <<< (Int32.toInt64 (8 : Int32) &&& 63)) ||| (((((XT.ushrL v (40 : Int32)).toInt32).toInt8.toInt32).toInt8.toInt32) &&& (255 : Int32)).toInt64) <<< (Int32.toInt64 (8 : Int32) &&& 63)) ||| (((((XT.ushrL v (32 : Int32)).toInt32).toInt8.toInt32).toInt8.toInt32) &&& (255 : Int32)).toInt64) <<< (Int32.toInt64 (8 : Int32) &&& 63)) ||| (((((XT.ushrL v (24 : Int32)).toInt32).toInt8.toInt32).toInt8.toInt32) &&& (255 : Int32)).toInt64) <<< (Int32.toInt64 (8 : Int32) &&& 63)) ||| (((((XT.ushrL v (16 : Int32)).toInt32).toInt8.toInt32).toInt8.toInt32) &&& (255 : Int32)).toInt64) <<< (Int32.toInt64 (8 : Int32) &&& 63)) ||| (((((XT.ushrL v (8 : Int32)).toInt32).toInt8.toInt32).toInt8.toInt32) &&& (255 : Int32)).toInt64) <<< (Int32.toInt64 (8 : Int32) &&& 63)) ||| (v.toInt32.toInt8.toInt32.toInt8.toInt32 &&& (255 : Int32)).toInt64) (12 : Int32)) * (1000 : Int64)) + ((((((((((((((((((((0 : Int64) <<< (Int32.toInt64 (8 : Int32) &&& 63)) ||| (((((XT.ushrL v (56 : Int32)).toInt32).toInt8.toInt32).toInt8.toInt32) &&& (255 : Int32)).toInt64) <<< (Int32.toInt64 (8 : Int32) &&& 63)) ||| (((((XT.ushrL v (48 : Int32)).toInt32).toInt8.toInt32).toInt8.toInt32) &&& (255 : Int32)).toInt64) <<< (Int32.toInt64 (8 : Int32) &&& 63)) ||| (((((XT.ushrL v (40 : Int32)).toInt32).toInt8.toInt32).toInt8.toInt32) &&& (255 : Int32)).toInt64) <<< (Int32.toInt64 (8 : Int32) &&& 63)) ||| (((((XT.ushrL v (32 : Int32)).toInt32).toInt8.toInt32).toInt8.toInt32) &&& (255 : Int32)).toInt64) <<< (Int32.toInt64 (8 : Int32) &&& 63)) ||| (((((XT.ushrL v (24 : Int32)).toInt32).toInt8.toInt32).toInt8.toInt32) &&& (255 : Int32)).toInt64) <<< (Int32.toInt64 (8 : Int32) &&& 63)) ||| (((((XT.ushrL v (16 : Int32)).toInt32).toInt8.toInt32).toInt8.toInt32) &&& (255 : Int32)).toInt64) <<< (Int32.toInt64 (8 : Int32) &&& 63)) ||| (((((XT.ushrL v (8 : Int32)).toInt32).toInt8.toInt32).toInt8.toInt32) &&& (255 : Int32)).toInt64) <<< (Int32.toInt64 (8 : Int32) &&& 63)) ||| (v.toInt32.toInt8.toInt32.toInt8.toInt32 &&& (255 : Int32)).toInt64) &&& (4095 : Int64)) * (1000 : Int64)) / (4096 : Int64))) - (2208988800000000000 : Int64))), .second, .unset, .unset, .unset, .unset, .unset, .unset] (hb hby at_340) rfl ?_
    refine Own.lloadN X52 hx (pc := 342) (hb hby at_342) rfl ?_
    refine Own.bipush X52 hx (pc := 343) (9 : Int32) (hb hby at_343) (by decide) ?_
    refine Own.lushr X52 hx (pc := 345) (hb hby at_345) ?_
    refine Own.lstore X52 hx (pc := 346) #[.val (.long v), .second, .val (.int ep), .val (.long fl), .second, .val (.int off), .val (.int (2 : Int32)), .val (.ref b2), .val (.long ((((XT.ushrL (((((((((((((((((0 : Int64) <<< (Int32.toInt64 (8 : Int32) &&& 63)) ||| (((((XT.ushrL v (56 : Int32)).toInt32).toInt8.toInt32).toInt8.toInt32) &&& (255 : Int32)).toInt64) <<< (Int32.toInt64 (8 : Int32) &&& 63)) ||| (((((XT.ushrL v (48 : Int32)).toInt32).toInt8.toInt32).toInt8.toInt32) &&& (255 : Int32)).toInt64) <<< (Int32.toInt64 (8 : Int32) &&& 63)) ||| (((((XT.ushrL v (40 : Int32)).toInt32).toInt8.toInt32).toInt8.toInt32) &&& (255 : Int32)).toInt64) <<< (Int32.toInt64 (8 : Int32) &&& 63)) ||| (((((XT.ushrL v (32 : Int32)).toInt32).toInt8.toInt32).toInt8.toInt32) &&& (255 : Int32)).toInt64) <<< (Int32.toInt64 (8 : Int32) &&& 63)) ||| (((((XT.ushrL v (24 : Int32)).toInt32).toInt8.toInt32).toInt8.toInt32) &&& (255 : Int32)).toInt64) <<< (Int32.toInt64 (8 : Int32) &&& 63)) ||| (((((XT.ushrL v (16 : Int32)).toInt32).toInt8.toInt32).toInt8.toInt32) &&& (255 : Int32)).toInt64) <<< (Int32.toInt64 (8 : Int32) &&& 63)) ||| (((((XT.ushrL v (8 : Int32)).toInt32).toInt8.toInt32).toInt8.toInt32) &&& (255 : Int32)).toInt64) <<< (Int32.toInt64 (8 : Int32) &&& 63)) ||| (v.toInt32.toInt8.toInt32.toInt8.toInt32 &&& (255 : Int32)).toInt64) (12 : Int32)) * (1000 : Int64)) + ((((((((((((((((((((0 : Int64) <<< (Int32.toInt64 (8 : Int32) &&& 63)) ||| (((((XT.ushrL v (56 : Int32)).toInt32).toInt8.toInt32).toInt8.toInt32) &&& (255 : Int32)).toInt64) <<< (Int32.toInt64 (8 : Int32) &&& 63)) ||| (((((XT.ushrL v (48 : Int32)).toInt32).toInt8.toInt32).toInt8.toInt32) &&& (255 : Int32)).toInt64) <<< (Int32.toInt64 (8 : Int32) &&& 63)) ||| (((((XT.ushrL v (40 : Int32)).toInt32).toInt8.toInt32).toInt8.toInt32) &&& (255 : Int32)).toInt64) <<< (Int32.toInt64 (8 : Int32) &&& 63)) ||| (((((XT.ushrL v (32 : Int32)).toInt32).toInt8.toInt32).toInt8.toInt32) &&& (255 : Int32)).toInt64) <<< (Int32.toInt64 (8 : Int32) &&& 63)) ||| (((((XT.ushrL v (24 : Int32)).toInt32).toInt8.toInt32).toInt8.toInt32) &&& (255 : Int32)).toInt64) <<< (Int32.toInt64 (8 : Int32) &&& 63)) ||| (((((XT.ushrL v (16 : Int32)).toInt32).toInt8.toInt32).toInt8.toInt32) &&& (255 : Int32)).toInt64) <<< (Int32.toInt64 (8 : Int32) &&& 63)) ||| (((((XT.ushrL v (8 : Int32)).toInt32).toInt8.toInt32).toInt8.toInt32) &&& (255 : Int32)).toInt64) <<< (Int32.toInt64 (8 : Int32) &&& 63)) ||| (v.toInt32.toInt8.toInt32.toInt8.toInt32 &&& (255 : Int32)).toInt64) &&& (4095 : Int64)) * (1000 : Int64)) / (4096 : Int64))) - (2208988800000000000 : Int64))), .second, .val (.long (XT.ushrL v (9 : Int32))), .second, .unset, .unset, .unset, .unset] (hb hby at_346) rfl ?_
    refine Own.lloadN X52 hx (pc := 348) (hb hby at_348) rfl ?_
    refine Own.ldc2J X52 hx hZ (pc := 349) hown (Wd hw 12 rfl) (hb hby at_349) ?_
    refine Own.land X52 hx (pc := 352) (hb hby at_352) ?_
    refine Own.lstore X52 hx (pc := 353) #[.val (.long v), .second, .val (.int ep), .val (.long fl), .second, .val (.int off), .val (.int (2 : Int32)), .val (.ref b2), .val (.long ((((XT.ushrL (((((((((((((((((0 : Int64) <<< (Int32.toInt64 (8 : Int32) &&& 63)) ||| (((((XT.ushrL v (56 : Int32)).toInt32).toInt8.toInt32).toInt8.toInt32) &&& (255 : Int32)).toInt64) <<< (Int32.toInt64 (8 : Int32) &&& 63)) ||| (((((XT.ushrL v (48 : Int32)).toInt32).toInt8.toInt32).toInt8.toInt32) &&& (255 : Int32)).toInt64) <<< (Int32.toInt64 (8 : Int32) &&& 63)) ||| (((((XT.ushrL v (40 : Int32)).toInt32).toInt8.toInt32).toInt8.toInt32) &&& (255 : Int32)).toInt64) <<< (Int32.toInt64 (8 : Int32) &&& 63)) ||| (((((XT.ushrL v (32 : Int32)).toInt32).toInt8.toInt32).toInt8.toInt32) &&& (255 : Int32)).toInt64) <<< (Int32.toInt64 (8 : Int32) &&& 63)) ||| (((((XT.ushrL v (24 : Int32)).toInt32).toInt8.toInt32).toInt8.toInt32) &&& (255 : Int32)).toInt64) <<< (Int32.toInt64 (8 : Int32) &&& 63)) ||| (((((XT.ushrL v (16 : Int32)).toInt32).toInt8.toInt32).toInt8.toInt32) &&& (255 : Int32)).toInt64) <<< (Int32.toInt64 (8 : Int32) &&& 63)) ||| (((((XT.ushrL v (8 : Int32)).toInt32).toInt8.toInt32).toInt8.toInt32) &&& (255 : Int32)).toInt64) <<< (Int32.toInt64 (8 : Int32) &&& 63)) ||| (v.toInt32.toInt8.toInt32.toInt8.toInt32 &&& (255 : Int32)).toInt64) (12 : Int32)) * (1000 : Int64)) + ((((((((((((((((((((0 : Int64) <<< (Int32.toInt64 (8 : Int32) &&& 63)) ||| (((((XT.ushrL v (56 : Int32)).toInt32).toInt8.toInt32).toInt8.toInt32) &&& (255 : Int32)).toInt64) <<< (Int32.toInt64 (8 : Int32) &&& 63)) ||| (((((XT.ushrL v (48 : Int32)).toInt32).toInt8.toInt32).toInt8.toInt32) &&& (255 : Int32)).toInt64) <<< (Int32.toInt64 (8 : Int32) &&& 63)) ||| (((((XT.ushrL v (40 : Int32)).toInt32).toInt8.toInt32).toInt8.toInt32) &&& (255 : Int32)).toInt64) <<< (Int32.toInt64 (8 : Int32) &&& 63)) ||| (((((XT.ushrL v (32 : Int32)).toInt32).toInt8.toInt32).toInt8.toInt32) &&& (255 : Int32)).toInt64) <<< (Int32.toInt64 (8 : Int32) &&& 63)) ||| (((((XT.ushrL v (24 : Int32)).toInt32).toInt8.toInt32).toInt8.toInt32) &&& (255 : Int32)).toInt64) <<< (Int32.toInt64 (8 : Int32) &&& 63)) ||| (((((XT.ushrL v (16 : Int32)).toInt32).toInt8.toInt32).toInt8.toInt32) &&& (255 : Int32)).toInt64) <<< (Int32.toInt64 (8 : Int32) &&& 63)) ||| (((((XT.ushrL v (8 : Int32)).toInt32).toInt8.toInt32).toInt8.toInt32) &&& (255 : Int32)).toInt64) <<< (Int32.toInt64 (8 : Int32) &&& 63)) ||| (v.toInt32.toInt8.toInt32.toInt8.toInt32 &&& (255 : Int32)).toInt64) &&& (4095 : Int64)) * (1000 : Int64)) / (4096 : Int64))) - (2208988800000000000 : Int64))), .second, .val (.long (XT.ushrL v (9 : Int32))), .second, .val (.long (v &&& (511 : Int64))), .second, .unset, .unset] (hb hby at_353) rfl ?_
    refine Own.lload X52 hx (pc := 355) (hb hby at_355) rfl ?_
    refine Own.ldc2J X52 hx hZ (pc := 357) hown (Wd hw 13 rfl) (hb hby at_357) ?_
    refine Own.lmul X52 hx (pc := 360) (hb hby at_360) ?_
    refine Own.lload X52 hx (pc := 361) (hb hby at_361) rfl ?_
    refine Own.ldc2J X52 hx hZ (pc := 363) hown (Wd hw 13 rfl) (hb hby at_363) ?_
    refine Own.lmul X52 hx (pc := 366) (hb hby at_366) ?_
    refine Own.ldc2J X52 hx hZ (pc := 367) hown (Wd hw 14 rfl) (hb hby at_367) ?_
    refine Own.ldiv X52 hx (pc := 370) (hb hby at_370) (by decide) ?_
    refine Own.ladd X52 hx (pc := 371) (hb hby at_371) ?_
    refine Own.ldc2J X52 hx hZ (pc := 372) hown (Wd hw 15 rfl) (hb hby at_372) ?_
    refine Own.lsub X52 hx (pc := 375) (hb hby at_375) ?_
    refine Own.lstore X52 hx (pc := 376) #[.val (.long v), .second, .val (.int ep), .val (.long fl), .second, .val (.int off), .val (.int (2 : Int32)), .val (.ref b2), .val (.long ((((XT.ushrL (((((((((((((((((0 : Int64) <<< (Int32.toInt64 (8 : Int32) &&& 63)) ||| (((((XT.ushrL v (56 : Int32)).toInt32).toInt8.toInt32).toInt8.toInt32) &&& (255 : Int32)).toInt64) <<< (Int32.toInt64 (8 : Int32) &&& 63)) ||| (((((XT.ushrL v (48 : Int32)).toInt32).toInt8.toInt32).toInt8.toInt32) &&& (255 : Int32)).toInt64) <<< (Int32.toInt64 (8 : Int32) &&& 63)) ||| (((((XT.ushrL v (40 : Int32)).toInt32).toInt8.toInt32).toInt8.toInt32) &&& (255 : Int32)).toInt64) <<< (Int32.toInt64 (8 : Int32) &&& 63)) ||| (((((XT.ushrL v (32 : Int32)).toInt32).toInt8.toInt32).toInt8.toInt32) &&& (255 : Int32)).toInt64) <<< (Int32.toInt64 (8 : Int32) &&& 63)) ||| (((((XT.ushrL v (24 : Int32)).toInt32).toInt8.toInt32).toInt8.toInt32) &&& (255 : Int32)).toInt64) <<< (Int32.toInt64 (8 : Int32) &&& 63)) ||| (((((XT.ushrL v (16 : Int32)).toInt32).toInt8.toInt32).toInt8.toInt32) &&& (255 : Int32)).toInt64) <<< (Int32.toInt64 (8 : Int32) &&& 63)) ||| (((((XT.ushrL v (8 : Int32)).toInt32).toInt8.toInt32).toInt8.toInt32) &&& (255 : Int32)).toInt64) <<< (Int32.toInt64 (8 : Int32) &&& 63)) ||| (v.toInt32.toInt8.toInt32.toInt8.toInt32 &&& (255 : Int32)).toInt64) (12 : Int32)) * (1000 : Int64)) + ((((((((((((((((((((0 : Int64) <<< (Int32.toInt64 (8 : Int32) &&& 63)) ||| (((((XT.ushrL v (56 : Int32)).toInt32).toInt8.toInt32).toInt8.toInt32) &&& (255 : Int32)).toInt64) <<< (Int32.toInt64 (8 : Int32) &&& 63)) ||| (((((XT.ushrL v (48 : Int32)).toInt32).toInt8.toInt32).toInt8.toInt32) &&& (255 : Int32)).toInt64) <<< (Int32.toInt64 (8 : Int32) &&& 63)) ||| (((((XT.ushrL v (40 : Int32)).toInt32).toInt8.toInt32).toInt8.toInt32) &&& (255 : Int32)).toInt64) <<< (Int32.toInt64 (8 : Int32) &&& 63)) ||| (((((XT.ushrL v (32 : Int32)).toInt32).toInt8.toInt32).toInt8.toInt32) &&& (255 : Int32)).toInt64) <<< (Int32.toInt64 (8 : Int32) &&& 63)) ||| (((((XT.ushrL v (24 : Int32)).toInt32).toInt8.toInt32).toInt8.toInt32) &&& (255 : Int32)).toInt64) <<< (Int32.toInt64 (8 : Int32) &&& 63)) ||| (((((XT.ushrL v (16 : Int32)).toInt32).toInt8.toInt32).toInt8.toInt32) &&& (255 : Int32)).toInt64) <<< (Int32.toInt64 (8 : Int32) &&& 63)) ||| (((((XT.ushrL v (8 : Int32)).toInt32).toInt8.toInt32).toInt8.toInt32) &&& (255 : Int32)).toInt64) <<< (Int32.toInt64 (8 : Int32) &&& 63)) ||| (v.toInt32.toInt8.toInt32.toInt8.toInt32 &&& (255 : Int32)).toInt64) &&& (4095 : Int64)) * (1000 : Int64)) / (4096 : Int64))) - (2208988800000000000 : Int64))), .second, .val (.long (XT.ushrL v (9 : Int32))), .second, .val (.long (v &&& (511 : Int64))), .second, .val (.long ((((XT.ushrL v (9 : Int32)) * (125 : Int64)) + (((v &&& (511 : Int64)) * (125 : Int64)) / (512 : Int64))) - (2208988800000000000 : Int64))), .second] (hb hby at_376) rfl ?_
    refine Own.lload X52 hx (pc := 378) (hb hby at_378) rfl ?_
    refine Own.lload X52 hx (pc := 380) (hb hby at_380) rfl ?_
    refine Own.lcmp X52 hx (pc := 382) (hb hby at_382) ?_
    refine Own.ifNo X52 hx (pc := 383) (hb hby at_383) (XT.ll_ne_f (own_nanos v)) ?_
    refine Own.iconst X52 hx (pc := 386) (1 : Int32) (hb hby at_386) (by decide) ?_
    refine Own.goto X52 hx (pc := 387) 391 (hb hby at_387) (by decide) (by decide) ?_
    exact Own.ireturn X52 hx hk hret (by simp) rfl (hb hby at_391) e52 ⟨rfl, N52⟩ (by decide) (by decide)
  · refine Own.aload X22 hx (pc := 222) (hb hby at_222) rfl rfl ?_
    refine Own.iload X22 hx (pc := 224) (hb hby at_224) rfl ?_
    refine Own.iloadN X22 hx (pc := 226) (hb hby at_226) rfl ?_
    refine Own.i2b X22 hx (pc := 227) (hb hby at_227) ?_
    refine Own.bastore X22 hx hZ (pc := 228) e22 V_b2 3 (by decide) (by decide) (of_decide_eq_true rfl) N22 ge_b2 (hb hby at_228) ?_
    intro T53 h53 X53 e53 W53 N53 V_b2
    replace V_b2 : Own.VArr Z h53 b2 .byte [(.int fl.toInt32.toInt8.toInt32.toInt8.toInt32), (.int ((((XT.ushrL fl (3 : Int32)).toInt32).toInt8.toInt32).toInt8.toInt32)), (.int ((((XT.ushrL fl (6 : Int32)).toInt32).toInt8.toInt32).toInt8.toInt32)), (.int ep.toInt8.toInt32.toInt8.toInt32), (.int ((((XT.ushrL fl (12 : Int32)).toInt32).toInt8.toInt32).toInt8.toInt32)), (.int ((((XT.ushrL fl (15 : Int32)).toInt32).toInt8.toInt32).toInt8.toInt32)), (.int ((((XT.ushrL fl (18 : Int32)).toInt32).toInt8.toInt32).toInt8.toInt32)), (.int ((((XT.ushrL fl (21 : Int32)).toInt32).toInt8.toInt32).toInt8.toInt32)), (.int ((((XT.ushrL fl (24 : Int32)).toInt32).toInt8.toInt32).toInt8.toInt32)), (.int ((((XT.ushrL fl (27 : Int32)).toInt32).toInt8.toInt32).toInt8.toInt32)), (.int ((((XT.ushrL fl (30 : Int32)).toInt32).toInt8.toInt32).toInt8.toInt32)), (.int ((((XT.ushrL fl (33 : Int32)).toInt32).toInt8.toInt32).toInt8.toInt32)), (.int ((((XT.ushrL fl (36 : Int32)).toInt32).toInt8.toInt32).toInt8.toInt32)), (.int ((((XT.ushrL fl (39 : Int32)).toInt32).toInt8.toInt32).toInt8.toInt32)), (.int ((((XT.ushrL fl (42 : Int32)).toInt32).toInt8.toInt32).toInt8.toInt32)), (.int ((((XT.ushrL fl (45 : Int32)).toInt32).toInt8.toInt32).toInt8.toInt32)), (.int ((((XT.ushrL fl (48 : Int32)).toInt32).toInt8.toInt32).toInt8.toInt32)), (.int ((((XT.ushrL fl (51 : Int32)).toInt32).toInt8.toInt32).toInt8.toInt32)), (.int ((((XT.ushrL fl (54 : Int32)).toInt32).toInt8.toInt32).toInt8.toInt32)), (.int ((((XT.ushrL fl (57 : Int32)).toInt32).toInt8.toInt32).toInt8.toInt32))] := V_b2
    have sz53 : n0 ≤ h53.size := Nat.le_trans sz22 (Nat.le_of_eq (Wr.size W53).symm)
    refine Own.aload X53 hx (pc := 229) (hb hby at_229) rfl rfl ?_
    refine Own.iload X53 hx (pc := 231) (hb hby at_231) rfl ?_
    refine Own.iconst X53 hx (pc := 233) (1 : Int32) (hb hby at_233) (by decide) ?_
    refine Own.iadd X53 hx (pc := 234) (hb hby at_234) ?_
    refine Own.topI (show ((3 : Int32) + (1 : Int32)) = (4 : Int32) by decide) ?_
    refine Own.lloadN X53 hx (pc := 235) (hb hby at_235) rfl ?_
    refine Own.bipush X53 hx (pc := 236) (56 : Int32) (hb hby at_236) (by decide) ?_
    refine Own.lushr X53 hx (pc := 238) (hb hby at_238) ?_
    refine Own.l2i X53 hx (pc := 239) (hb hby at_239) ?_
    refine Own.i2b X53 hx (pc := 240) (hb hby at_240) ?_
    refine Own.bastore X53 hx hZ (pc := 241) e53 V_b2 4 (by decide) (by decide) (of_decide_eq_true rfl) N53 ge_b2 (hb hby at_241) ?_
    intro T54 h54 X54 e54 W54 N54 V_b2
    replace V_b2 : Own.VArr Z h54 b2 .byte [(.int fl.toInt32.toInt8.toInt32.toInt8.toInt32), (.int ((((XT.ushrL fl (3 : Int32)).toInt32).toInt8.toInt32).toInt8.toInt32)), (.int ((((XT.ushrL fl (6 : Int32)).toInt32).toInt8.toInt32).toInt8.toInt32)), (.int ep.toInt8.toInt32.toInt8.toInt32), (.int ((((XT.ushrL v (56 : Int32)).toInt32).toInt8.toInt32).toInt8.toInt32)), (.int ((((XT.ushrL fl (15 : Int32)).toInt32).toInt8.toInt32).toInt8.toInt32)), (.int ((((XT.ushrL fl (18 : Int32)).toInt32).toInt8.toInt32).toInt8.toInt32)), (.int ((((XT.ushrL fl (21 : Int32)).toInt32).toInt8.toInt32).toInt8.toInt32)), (.int ((((XT.ushrL fl (24 : Int32)).toInt32).toInt8.toInt32).toInt8.toInt32)), (.int ((((XT.ushrL fl (27 : Int32)).toInt32).toInt8.toInt32).toInt8.toInt32)), (.int ((((XT.ushrL fl (30 : Int32)).toInt32).toInt8.toInt32).toInt8.toInt32)), (.int ((((XT.ushrL fl (33 : Int32)).toInt32).toInt8.toInt32).toInt8.toInt32)), (.int ((((XT.ushrL fl (36 : Int32)).toInt32).toInt8.toInt32).toInt8.toInt32)), (.int ((((XT.ushrL fl (39 : Int32)).toInt32).toInt8.toInt32).toInt8.toInt32)), (.int ((((XT.ushrL fl (42 : Int32)).toInt32).toInt8.toInt32).toInt8.toInt32)), (.int ((((XT.ushrL fl (45 : Int32)).toInt32).toInt8.toInt32).toInt8.toInt32)), (.int ((((XT.ushrL fl (48 : Int32)).toInt32).toInt8.toInt32).toInt8.toInt32)), (.int ((((XT.ushrL fl (51 : Int32)).toInt32).toInt8.toInt32).toInt8.toInt32)), (.int ((((XT.ushrL fl (54 : Int32)).toInt32).toInt8.toInt32).toInt8.toInt32)), (.int ((((XT.ushrL fl (57 : Int32)).toInt32).toInt8.toInt32).toInt8.toInt32))] := V_b2
    have sz54 : n0 ≤ h54.size := Nat.le_trans sz53 (Nat.le_of_eq (Wr.size W54).symm)
    refine Own.aload X54 hx (pc := 242) (hb hby at_242) rfl rfl ?_
    refine Own.iload X54 hx (pc := 244) (hb hby at_244) rfl ?_
    refine Own.iconst X54 hx (pc := 246) (2 : Int32) (hb hby at_246) (by decide) ?_
    refine Own.iadd X54 hx (pc := 247) (hb hby at_247) ?_
    refine Own.topI (show ((3 : Int32) + (2 : Int32)) = (5 : Int32) by decide) ?_
    refine Own.lloadN X54 hx (pc := 248) (hb hby at_248) rfl ?_
    refine Own.bipush X54 hx (pc := 249) (48 : Int32) (hb hby at_249) (by decide) ?_
    refine Own.lushr X54 hx (pc := 251) (hb hby at_251) ?_
    refine Own.l2i X54 hx (pc := 252) (hb hby at_252) ?_
    refine Own.i2b X54 hx (pc := 253) (hb hby at_253) ?_
    refine Own.bastore X54 hx hZ (pc := 254) e54 V_b2 5 (by decide) (by decide) (of_decide_eq_true rfl) N54 ge_b2 (hb hby at_254) ?_
    intro T55 h55 X55 e55 W55 N55 V_b2
    replace V_b2 : Own.VArr Z h55 b2 .byte [(.int fl.toInt32.toInt8.toInt32.toInt8.toInt32), (.int ((((XT.ushrL fl (3 : Int32)).toInt32).toInt8.toInt32).toInt8.toInt32)), (.int ((((XT.ushrL fl (6 : Int32)).toInt32).toInt8.toInt32).toInt8.toInt32)), (.int ep.toInt8.toInt32.toInt8.toInt32), (.int ((((XT.ushrL v (56 : Int32)).toInt32).toInt8.toInt32).toInt8.toInt32)), (.int ((((XT.ushrL v (48 : Int32)).toInt32).toInt8.toInt32).toInt8.toInt32)), (.int ((((XT.ushrL fl (18 : Int32)).toInt32).toInt8.toInt32).toInt8.toInt32)), (.int ((((XT.ushrL fl (21 : Int32)).toInt32).toInt8.toInt32).toInt8.toInt32)), (.int ((((XT.ushrL fl (24 : Int32)).toInt32).toInt8.toInt32).toInt8.toInt32)), (.int ((((XT.ushrL fl (27 : Int32)).toInt32).toInt8.toInt32).toInt8.toInt32)), (.int ((((XT.ushrL fl (30 : Int32)).toInt32).toInt8.toInt32).toInt8.toInt32)), (.int ((((XT.ushrL fl (33 : Int32)).toInt32).toInt8.toInt32).toInt8.toInt32)), (.int ((((XT.ushrL fl (36 : Int32)).toInt32).toInt8.toInt32).toInt8.toInt32)), (.int ((((XT.ushrL fl (39 : Int32)).toInt32).toInt8.toInt32).toInt8.toInt32)), (.int ((((XT.ushrL fl (42 : Int32)).toInt32).toInt8.toInt32).toInt8.toInt32)), (.int ((((XT.ushrL fl (45 : Int32)).toInt32).toInt8.toInt32).toInt8.toInt32)), (.int ((((XT.ushrL fl (48 : Int32)).toInt32).toInt8.toInt32).toInt8.toInt32)), (.int ((((XT.ushrL fl (51 : Int32)).toInt32).toInt8.toInt32).toInt8.toInt32)), (.int ((((XT.ushrL fl (54 : Int32)).toInt32).toInt8.toInt32).toInt8.toInt32)), (.int ((((XT.ushrL fl (57 : Int32)).toInt32).toInt8.toInt32).toInt8.toInt32))] := V_b2
    have sz55 : n0 ≤ h55.size := Nat.le_trans sz54 (Nat.le_of_eq (Wr.size W55).symm)
    refine Own.aload X55 hx (pc := 255) (hb hby at_255) rfl rfl ?_
    refine Own.iload X55 hx (pc := 257) (hb hby at_257) rfl ?_
    refine Own.iconst X55 hx (pc := 259) (3 : Int32) (hb hby at_259) (by decide) ?_
    refine Own.iadd X55 hx (pc := 260) (hb hby at_260) ?_
    refine Own.topI (show ((3 : Int32) + (3 : Int32)) = (6 : Int32) by decide) ?_
    refine Own.lloadN X55 hx (pc := 261) (hb hby at_261) rfl ?_
    refine Own.bipush X55 hx (pc := 262) (40 : Int32) (hb hby at_262) (by decide) ?_
    refine Own.lushr X55 hx (pc := 264) (hb hby at_264) ?_
    refine Own.l2i X55 hx (pc := 265) (hb hby at_265) ?_
    refine Own.i2b X55 hx (pc := 266) (hb hby at_266) ?_
    refine Own.bastore X55 hx hZ (pc := 267) e55 V_b2 6 (by decide) (by decide) (of_decide_eq_true rfl) N55 ge_b2 (hb hby at_267) ?_
    intro T56 h56 X56 e56 W56 N56 V_b2
    replace V_b2 : Own.VArr Z h56 b2 .byte [(.int fl.toInt32.toInt8.toInt32.toInt8.toInt32), (.int ((((XT.ushrL fl (3 : Int32)).toInt32).toInt8.toInt32).toInt8.toInt32)), (.int ((((XT.ushrL fl (6 : Int32)).toInt32).toInt8.toInt32).toInt8.toInt32)), (.int ep.toInt8.toInt32.toInt8.toInt32), (.int ((((XT.ushrL v (56 : Int32)).toInt32).toInt8.toInt32).toInt8.toInt32)), (.int ((((XT.ushrL v (48 : Int32)).toInt32).toInt8.toInt32).toInt8.toInt32)), (.int ((((XT.ushrL v (40 : Int32)).toInt32).toInt8.toInt32).toInt8.toInt32)), (.int ((((XT.ushrL fl (21 : Int32)).toInt32).toInt8.toInt32).toInt8.toInt32)), (.int ((((XT.ushrL fl (24 : Int32)).toInt32).toInt8.toInt32).toInt8.toInt32)), (.int ((((XT.ushrL fl (27 : Int32)).toInt32).toInt8.toInt32).toInt8.toInt32)), (.int ((((XT.ushrL fl (30 : Int32)).toInt32).toInt8.toInt32).toInt8.toInt32)), (.int ((((XT.ushrL fl (33 : Int32)).toInt32).toInt8.toInt32).toInt8.toInt32)), (.int ((((XT.ushrL fl (36 : Int32)).toInt32).toInt8.toInt32).toInt8.toInt32)), (.int ((((XT.ushrL fl (39 : Int32)).toInt32).toInt8.toInt32).toInt8.toInt32)), (.int ((((XT.ushrL fl (42 : Int32)).toInt32).toInt8.toInt32).toInt8.toInt32)), (.int ((((XT.ushrL fl (45 : Int32)).toInt32).toInt8.toInt32).toInt8.toInt32)), (.int ((((XT.ushrL fl (48 : Int32)).toInt32).toInt8.toInt32).toInt8.toInt32)), (.int ((((XT.ushrL fl (51 : Int32)).toInt32).toInt8.toInt32).toInt8.toInt32)), (.int ((((XT.ushrL fl (54 : Int32)).toInt32).toInt8.toInt32).toInt8.toInt32)), (.int ((((XT.ushrL fl (57 : Int32)).toInt32).toInt8.toInt32).toInt8.toInt32))] := V_b2
    have sz56 : n0 ≤ h56.size := Nat.le_trans sz55 (Nat.le_of_eq (Wr.size W56).symm)
    refine Own.aload X56 hx (pc := 268) (hb hby at_268) rfl rfl ?_
    refine Own.iload X56 hx (pc := 270) (hb hby at_270) rfl ?_
    refine Own.iconst X56 hx (pc := 272) (4 : Int32) (hb hby at_272) (by decide) ?_
    refine Own.iadd X56 hx (pc := 273) (hb hby at_273) ?_
    refine Own.topI (show ((3 : Int32) + (4 : Int32)) = (7 : Int32) by decide) ?_
    refine Own.lloadN X56 hx (pc := 274) (hb hby at_274) rfl ?_
    refine Own.bipush X56 hx (pc := 275) (32 : Int32) (hb hby at_275) (by decide) ?_
    refine Own.lushr X56 hx (pc := 277) (hb hby at_277) ?_
    refine Own.l2i X56 hx (pc := 278) (hb hby at_278) ?_
    refine Own.i2b X56 hx (pc := 279) (hb hby at_279) ?_
    refine Own.bastore X56 hx hZ (pc := 280) e56 V_b2 7 (by decide) (by decide) (of_decide_eq_true rfl) N56 ge_b2 (hb hby at_280) ?_
    intro T57 h57 X57 e57 W57 N57 V_b2
    replace V_b2 : Own.VArr Z h57 b2 .byte [(.int fl.toInt32.toInt8.toInt32.toInt8.toInt32), (.int ((((XT.ushrL fl (3 : Int32)).toInt32).toInt8.toInt32).toInt8.toInt32)), (.int ((((XT.ushrL fl (6 : Int32)).toInt32).toInt8.toInt32).toInt8.toInt32)), (.int ep.toInt8.toInt32.toInt8.toInt32), (.int ((((XT.ushrL v (56 : Int32)).toInt32).toInt8.toInt32).toInt8.toInt32)), (.int ((((XT.ushrL v (48 : Int32)).toInt32).toInt8.toInt32).toInt8.toInt32)), (.int ((((XT.ushrL v (40 : Int32)).toInt32).toInt8.toInt32).toInt8.toInt32)), (.int ((((XT.ushrL v (32 : Int32)).toInt32).toInt8.toInt32).toInt8.toInt32)), (.int ((((XT.ushrL fl (24 : Int32)).toInt32).toInt8.toInt32).toInt8.toInt32)), (.int ((((XT.ushrL fl (27 : Int32)).toInt32).toInt8.toInt32).toInt8.toInt32)), (.int ((((XT.ushrL fl (30 : Int32)).toInt32).toInt8.toInt32).toInt8.toInt32)), (.int ((((XT.ushrL fl (33 : Int32)).toInt32).toInt8.toInt32).toInt8.toInt32)), (.int ((((XT.ushrL fl (36 : Int32)).toInt32).toInt8.toInt32).toInt8.toInt32)), (.int ((((XT.ushrL fl (39 : Int32)).toInt32).toInt8.toInt32).toInt8.toInt32)), (.int ((((XT.ushrL fl (42 : Int32)).toInt32).toInt8.toInt32).toInt8.toInt32)), (.int ((((XT.ushrL fl (45 : Int32)).toInt32).toInt8.toInt32).toInt8.toInt32)), (.int ((((XT.ushrL fl (48 : Int32)).toInt32).toInt8.toInt32).toInt8.toInt32)), (.int ((((XT.ushrL fl (51 : Int32)).toInt32).toInt8.toInt32).toInt8.toInt32)), (.int ((((XT.ushrL fl (54 : Int32)).toInt32).toInt8.toInt32).toInt8.toInt32)), (.int ((((XT.ushrL fl (57 : Int32)).toInt32).toInt8.toInt32).toInt8.toInt32))] := V_b2
    have sz57 : n0 ≤ h57.size := Nat.le_trans sz56 (Nat.le_of_eq (Wr.size W57).symm)
    refine Own.aload X57 hx (pc := 281) (hb hby at_281) rfl rfl ?_
    refine Own.iload X57 hx (pc := 283) (hb hby at_283) rfl ?_
    refine Own.iconst X57 hx (pc := 285) (5 : Int32) (hb hby at_285) (by decide) ?_
    refine Own.iadd X57 hx (pc := 286) (hb hby at_286) ?_
    refine Own.topI (show ((3 : Int32) + (5 : Int32)) = (8 : Int32) by decide) ?_
    refine Own.lloadN X57 hx (pc := 287) (hb hby at_287) rfl ?_
    refine Own.bipush X57 hx (pc := 288) (24 : Int32) (hb hby at_288) (by decide) ?_
    refine Own.lushr X57 hx (pc := 290) (hb hby at_290) ?_
    refine Own.l2i X57 hx (pc := 291) (hb hby at_291) ?_
    refine Own.i2b X57 hx (pc := 292) (hb hby at_292) ?_
    refine Own.bastore X57 hx hZ (pc := 293) e57 V_b2 8 (by decide) (by decide) (of_decide_eq_true rfl) N57 ge_b2 (hb hby at_293) ?_
    intro T58 h58 X58 e58 W58 N58 V_b2
    replace V_b2 : Own.VArr Z h58 b2 .byte [(.int fl.toInt32.toInt8.toInt32.toInt8.toInt32), (.int ((((XT.ushrL fl (3 : Int32)).toInt32).toInt8.toInt32).toInt8.toInt32)), (.int ((((XT.ushrL fl (6 : Int32)).toInt32).toInt8.toInt32).toInt8.toInt32)), (.int ep.toInt8.toInt32.toInt8.toInt32), (.int ((((XT.ushrL v (56 : Int32)).toInt32).toInt8.toInt32).toInt8.toInt32)), (.int ((((XT.ushrL v (48 : Int32)).toInt32).toInt8.toInt32).toInt8.toInt32)), (.int ((((XT.ushrL v (40 : Int32)).toInt32).toInt8.toInt32).toInt8.toInt32)), (.int ((((XT.ushrL v (32 : Int32)).toInt32).toInt8.toInt32).toInt8.toInt32)), (.int ((((XT.ushrL v (24 : Int32)).toInt32).toInt8.toInt32).toInt8.toInt32)), (.int ((((XT.ushrL fl (27 : Int32)).toInt32).toInt8.toInt32).toInt8.toInt32)), (.int ((((XT.ushrL fl (30 : Int32)).toInt32).toInt8.toInt32).toInt8.toInt32)), (.int ((((XT.ushrL fl (33 : Int32)).toInt32).toInt8.toInt32).toInt8.toInt32)), (.int ((((XT.ushrL fl (36 : Int32)).toInt32).toInt8.toInt32).toInt8.toInt32)), (.int ((((XT.ushrL fl (39 : Int32)).toInt32).toInt8.toInt32).toInt8.toInt32)), (.int ((((XT.ushrL fl (42 : Int32)).toInt32).toInt8.toInt32).toInt8.toInt32)), (.int ((((XT.ushrL fl (45 : Int32)).toInt32).toInt8.toInt32).toInt8.toInt32)), (.int ((((XT.ushrL fl (48 : Int32)).toInt32).toInt8.toInt32).toInt8.toInt32)), (.int ((((XT.ushrL fl (51 : Int32)).toInt32).toInt8.toInt32).toInt8.toInt32)), (.int ((((XT.ushrL fl (54 : Int32)).toInt32).toInt8.toInt32).toInt8.toInt32)), (.int ((((XT.ushrL fl (57 : Int32)).toInt32).toInt8.toInt32).toInt8.toInt32))] := V_b2
    have sz58 : n0 ≤ h58.size := Nat.le_trans sz57 (Nat.le_of_eq (Wr.size W58).symm)
    refine Own.aload X58 hx (pc := 294) (hb hby at_294) rfl rfl ?_
    refine Own.iload X58 hx (pc := 296) (hb hby at_296) rfl ?_
    refine Own.bipush X58 hx (pc := 298) (6 : Int32) (hb hby at_298) (by decide) ?_
    refine Own.iadd X58 hx (pc := 300) (hb hby at_300) ?_
    refine Own.topI (show ((3 : Int32) + (6 : Int32)) = (9 : Int32) by decide) ?_
    refine Own.lloadN X58 hx (pc := 301) (hb hby at_301) rfl ?_
    refine Own.bipush X58 hx (pc := 302) (16 : Int32) (hb hby at_302) (by decide) ?_
    refine Own.lushr X58 hx (pc := 304) (hb hby at_304) ?_
    refine Own.l2i X58 hx (pc := 305) (hb hby at_305) ?_
    refine Own.i2b X58 hx (pc := 306) (hb hby at_306) ?_
    refine Own.bastore X58 hx hZ (pc := 307) e58 V_b2 9 (by decide) (by decide) (of_decide_eq_true rfl) N58 ge_b2 (hb hby at_307) ?_
    intro T59 h59 X59 e59 W59 N59 V_b2
    replace V_b2 : Own.VArr Z h59 b2 .byte [(.int fl.toInt32.toInt8.toInt32.toInt8.toInt32), (.int ((((XT.ushrL fl (3 : Int32)).toInt32).toInt8.toInt32).toInt8.toInt32)), (.int ((((XT.ushrL fl (6 : Int32)).toInt32).toInt8.toInt32).toInt8.toInt32)), (.int ep.toInt8.toInt32.toInt8.toInt32), (.int ((((XT.ushrL v (56 : Int32)).toInt32).toInt8.toInt32).toInt8.toInt32)), (.int ((((XT.ushrL v (48 : Int32)).toInt32).toInt8.toInt32).toInt8.toInt32)), (.int ((((XT.ushrL v (40 : Int32)).toInt32).toInt8.toInt32).toInt8.toInt32)), (.int ((((XT.ushrL v (32 : Int32)).toInt32).toInt8.toInt32).toInt8.toInt32)), (.int ((((XT.ushrL v (24 : Int32)).toInt32).toInt8.toInt32).toInt8.toInt32)), (.int ((((XT.ushrL v (16 : Int32)).toInt32).toInt8.toInt32).toInt8.toInt32)), (.int ((((XT.ushrL fl (30 : Int32)).toInt32).toInt8.toInt32).toInt8.toInt32)), (.int ((((XT.ushrL fl (33 : Int32)).toInt32).toInt8.toInt32).toInt8.toInt32)), (.int ((((XT.ushrL fl (36 : Int32)).toInt32).toInt8.toInt32).toInt8.toInt32)), (.int ((((XT.ushrL fl (39 : Int32)).toInt32).toInt8.toInt32).toInt8.toInt32)), (.int ((((XT.ushrL fl (42 : Int32)).toInt32).toInt8.toInt32).toInt8.toInt32)), (.int ((((XT.ushrL fl (45 : Int32)).toInt32).toInt8.toInt32).toInt8.toInt32)), (.int ((((XT.ushrL fl (48 : Int32)).toInt32).toInt8.toInt32).toInt8.toInt32)), (.int ((((XT.ushrL fl (51 : Int32)).toInt32).toInt8.toInt32).toInt8.toInt32)), (.int ((((XT.ushrL fl (54 : Int32)).toInt32).toInt8.toInt32).toInt8.toInt32)), (.int ((((XT.ushrL fl (57 : Int32)).toInt32).toInt8.toInt32).toInt8.toInt32))] := V_b2
    have sz59 : n0 ≤ h59.size := Nat.le_trans sz58 (Nat.le_of_eq (Wr.size W59).symm)
    refine Own.aload X59 hx (pc := 308) (hb hby at_308) rfl rfl ?_
    refine Own.iload X59 hx (pc := 310) (hb hby at_310) rfl ?_
    refine Own.bipush X59 hx (pc := 312) (7 : Int32) (hb hby at_312) (by decide) ?_
    refine Own.iadd X59 hx (pc := 314) (hb hby at_314) ?_
    refine Own.topI (show ((3 : Int32) + (7 : Int32)) = (10 : Int32) by decide) ?_
    refine Own.lloadN X59 hx (pc := 315) (hb hby at_315) rfl ?_
    refine Own.bipush X59 hx (pc := 316) (8 : Int32) (hb hby at_316) (by decide) ?_
    refine Own.lushr X59 hx (pc := 318) (hb hby at_318) ?_
    refine Own.l2i X59 hx (pc := 319) (hb hby at_319) ?_
    refine Own.i2b X59 hx (pc := 320) (hb hby at_320) ?_
    refine Own.bastore X59 hx hZ (pc := 321) e59 V_b2 10 (by decide) (by decide) (of_decide_eq_true rfl) N59 ge_b2 (hb hby at_321) ?_
    intro T60 h60 X60 e60 W60 N60 V_b2
    replace V_b2 : Own.VArr Z h60 b2 .byte [(.int fl.toInt32.toInt8.toInt32.toInt8.toInt32), (.int ((((XT.ushrL fl (3 : Int32)).toInt32).toInt8.toInt32).toInt8.toInt32)), (.int ((((XT.ushrL fl (6 : Int32)).toInt32).toInt8.toInt32).toInt8.toInt32)), (.int ep.toInt8.toInt32.toInt8.toInt32), (.int ((((XT.ushrL v (56 : Int32)).toInt32).toInt8.toInt32).toInt8.toInt32)), (.int ((((XT.ushrL v (48 : Int32)).toInt32).toInt8.toInt32).toInt8.toInt32)), (.int ((((XT.ushrL v (40 : Int32)).toInt32).toInt8.toInt32).toInt8.toInt32)), (.int ((((XT.ushrL v (32 : Int32)).toInt32).toInt8.toInt32).toInt8.toInt32)), (.int ((((XT.ushrL v (24 : Int32)).toInt32).toInt8.toInt32).toInt8.toInt32)), (.int ((((XT.ushrL v (16 : Int32)).toInt32).toInt8.toInt32).toInt8.toInt32)), (.int ((((XT.ushrL v (8 : Int32)).toInt32).toInt8.toInt32).toInt8.toInt32)), (.int ((((XT.ushrL fl (33 : Int32)).toInt32).toInt8.toInt32).toInt8.toInt32)), (.int ((((XT.ushrL fl (36 : Int32)).toInt32).toInt8.toInt32).toInt8.toInt32)), (.int ((((XT.ushrL fl (39 : Int32)).toInt32).toInt8.toInt32).toInt8.toInt32)), (.int ((((XT.ushrL fl (42 : Int32)).toInt32).toInt8.toInt32).toInt8.toInt32)), (.int ((((XT.ushrL fl (45 : Int32)).toInt32).toInt8.toInt32).toInt8.toInt32)), (.int ((((XT.ushrL fl (48 : Int32)).toInt32).toInt8.toInt32).toInt8.toInt32)), (.int ((((XT.ushrL fl (51 : Int32)).toInt32).toInt8.toInt32).toInt8.toInt32)), (.int ((((XT.ushrL fl (54 : Int32)).toInt32).toInt8.toInt32).toInt8.toInt32)), (.int ((((XT.ushrL fl (57 : Int32)).toInt32).toInt8.toInt32).toInt8.toInt32))] := V_b2
    have sz60 : n0 ≤ h60.size := Nat.le_trans sz59 (Nat.le_of_eq (Wr.size W60).symm)
    refine Own.aload X60 hx (pc := 322) (hb hby at_322) rfl rfl ?_
    refine Own.iload X60 hx (pc := 324) (hb hby at_324) rfl ?_
    refine Own.bipush X60 hx (pc := 326) (8 : Int32) (hb hby at_326) (by decide) ?_
    refine Own.iadd X60 hx (pc := 328) (hb hby at_328) ?_
    refine Own.topI (show ((3 : Int32) + (8 : Int32)) = (11 : Int32) by decide) ?_
    refine Own.lloadN X60 hx (pc := 329) (hb hby at_329) rfl ?_
    refine Own.l2i X60 hx (pc := 330) (hb hby at_330) ?_
    refine Own.i2b X60 hx (pc := 331) (hb hby at_331) ?_
    refine Own.bastore X60 hx hZ (pc := 332) e60 V_b2 11 (by decide) (by decide) (of_decide_eq_true rfl) N60 ge_b2 (hb hby at_332) ?_
    intro T61 h61 X61 e61 W61 N61 V_b2
    replace V_b2 : Own.VArr Z h61 b2 .byte [(.int fl.toInt32.toInt8.toInt32.toInt8.toInt32), (.int ((((XT.ushrL fl (3 : Int32)).toInt32).toInt8.toInt32).toInt8.toInt32)), (.int ((((XT.ushrL fl (6 : Int32)).toInt32).toInt8.toInt32).toInt8.toInt32)), (.int ep.toInt8.toInt32.toInt8.toInt32), (.int ((((XT.ushrL v (56 : Int32)).toInt32).toInt8.toInt32).toInt8.toInt32)), (.int ((((XT.ushrL v (48 : Int32)).toInt32).toInt8.toInt32).toInt8.toInt32)), (.int ((((XT.ushrL v (40 : Int32)).toInt32).toInt8.toInt32).toInt8.toInt32)), (.int ((((XT.ushrL v (32 : Int32)).toInt32).toInt8.toInt32).toInt8.toInt32)), (.int ((((XT.ushrL v (24 : Int32)).toInt32).toInt8.toInt32).toInt8.toInt32)), (.int ((((XT.ushrL v (16 : Int32)).toInt32).toInt8.toInt32).toInt8.toInt32)), (.int ((((XT.ushrL v (8 : Int32)).toInt32).toInt8.toInt32).toInt8.toInt32)), (.int v.toInt32.toInt8.toInt32.toInt8.toInt32), (.int ((((XT.ushrL fl (36 : Int32)).toInt32).toInt8.toInt32).toInt8.toInt32)), (.int ((((XT.ushrL fl (39 : Int32)).toInt32).toInt8.toInt32).toInt8.toInt32)), (.int ((((XT.ushrL fl (42 : Int32)).toInt32).toInt8.toInt32).toInt8.toInt32)), (.int ((((XT.ushrL fl (45 : Int32)).toInt32).toInt8.toInt32).toInt8.toInt32)), (.int ((((XT.ushrL fl (48 : Int32)).toInt32).toInt8.toInt32).toInt8.toInt32)), (.int ((((XT.ushrL fl (51 : Int32)).toInt32).toInt8.toInt32).toInt8.toInt32)), (.int ((((XT.ushrL fl (54 : Int32)).toInt32).toInt8.toInt32).toInt8.toInt32)), (.int ((((XT.ushrL fl (57 : Int32)).toInt32).toInt8.toInt32).toInt8.toInt32))] := V_b2
    have sz61 : n0 ≤ h61.size := Nat.le_trans sz60 (Nat.le_of_eq (Wr.size W61).symm)
    refine Own.aload X61 hx (pc := 333) (hb hby at_333) rfl rfl ?_
    refine Own.iload X61 hx (pc := 335) (hb hby at_335) rfl ?_
    refine Own.callStatic X61 hx hZ (pc := 337) (y := (⟨"com/example/traceloom/traceloom/smf/Stcke", "unixNanos", "([BI)J"⟩ : MethodName)) hown (Wd hw 1 rfl) (Wd hw 2 rfl) (Wd hw 3 rfl) (Wd hw 4 rfl) (by decide) 0 [(.ref b2), (.int (3 : Int32))] [] (rm1 l Z a0 hw b2 (3 : Int32) ([(.int fl.toInt32.toInt8.toInt32.toInt8.toInt32), (.int ((((XT.ushrL fl (3 : Int32)).toInt32).toInt8.toInt32).toInt8.toInt32)), (.int ((((XT.ushrL fl (6 : Int32)).toInt32).toInt8.toInt32).toInt8.toInt32)), (.int ep.toInt8.toInt32.toInt8.toInt32), (.int ((((XT.ushrL v (56 : Int32)).toInt32).toInt8.toInt32).toInt8.toInt32)), (.int ((((XT.ushrL v (48 : Int32)).toInt32).toInt8.toInt32).toInt8.toInt32)), (.int ((((XT.ushrL v (40 : Int32)).toInt32).toInt8.toInt32).toInt8.toInt32)), (.int ((((XT.ushrL v (32 : Int32)).toInt32).toInt8.toInt32).toInt8.toInt32)), (.int ((((XT.ushrL v (24 : Int32)).toInt32).toInt8.toInt32).toInt8.toInt32)), (.int ((((XT.ushrL v (16 : Int32)).toInt32).toInt8.toInt32).toInt8.toInt32)), (.int ((((XT.ushrL v (8 : Int32)).toInt32).toInt8.toInt32).toInt8.toInt32)), (.int v.toInt32.toInt8.toInt32.toInt8.toInt32), (.int ((((XT.ushrL fl (36 : Int32)).toInt32).toInt8.toInt32).toInt8.toInt32)), (.int ((((XT.ushrL fl (39 : Int32)).toInt32).toInt8.toInt32).toInt8.toInt32)), (.int ((((XT.ushrL fl (42 : Int32)).toInt32).toInt8.toInt32).toInt8.toInt32)), (.int ((((XT.ushrL fl (45 : Int32)).toInt32).toInt8.toInt32).toInt8.toInt32)), (.int ((((XT.ushrL fl (48 : Int32)).toInt32).toInt8.toInt32).toInt8.toInt32)), (.int ((((XT.ushrL fl (51 : Int32)).toInt32).toInt8.toInt32).toInt8.toInt32)), (.int ((((XT.ushrL fl (54 : Int32)).toInt32).toInt8.toInt32).toInt8.toInt32)), (.int ((((XT.ushrL fl (57 : Int32)).toInt32).toInt8.toInt32).toInt8.toInt32))]) ((((XT.ushrL v (56 : Int32)).toInt32).toInt8.toInt32).toInt8.toInt32) ((((XT.ushrL v (48 : Int32)).toInt32).toInt8.toInt32).toInt8.toInt32) ((((XT.ushrL v (40 : Int32)).toInt32).toInt8.toInt32).toInt8.toInt32) ((((XT.ushrL v (32 : Int32)).toInt32).toInt8.toInt32).toInt8.toInt32) ((((XT.ushrL v (24 : Int32)).toInt32).toInt8.toInt32).toInt8.toInt32) ((((XT.ushrL v (16 : Int32)).toInt32).toInt8.toInt32).toInt8.toInt32) ((((XT.ushrL v (8 : Int32)).toInt32).toInt8.toInt32).toInt8.toInt32) v.toInt32.toInt8.toInt32.toInt8.toInt32 h61 n0 sz61 V_b2 (by decide) rfl (by decide) rfl (by decide) rfl (by decide) rfl (by decide) rfl (by decide) rfl (by decide) rfl (by decide) rfl) (by decide) (by decide) e61 (by rw [hml]; rfl) pd1 rfl rfl (Nat.le_of_eq rfl) (hb hby at_337) (by decide) (by decide) ?_
    intro T62 L62 v62 X62 hQ62
    obtain ⟨rfl, Nq62, e62⟩ := hQ62
    have N62 := Fr.app N61 Nq62
    show Own.Go p e below _ (T62.setTop (mkF m 340 #[.val (.long v), .second, .val (.int ep), .val (.long fl), .second, .val (.int off), .val (.int (3 : Int32)), .val (.ref b2), .unset, .unset, .unset, .unset, .unset, .unset, .unset, .unset] [(.long ((((XT.ushrL (((((((((((((((((0 : Int64) <<< (Int32.toInt64 (8 : Int32) &&& 63)) ||| (((((XT.ushrL v (56 : Int32)).toInt32).toInt8.toInt32).toInt8.toInt32) &&& (255 : Int32)).toInt64) <<< (Int32.toInt64 (8 : Int32) &&& 63)) ||| (((((XT.ushrL v (48 : Int32)).toInt32).toInt8.toInt32).toInt8.toInt32) &&& (255 : Int32)).toInt64) <<< (Int32.toInt64 (8 : Int32) &&& 63)) ||| (((((XT.ushrL v (40 : Int32)).toInt32).toInt8.toInt32).toInt8.toInt32) &&& (255 : Int32)).toInt64) <<< (Int32.toInt64 (8 : Int32) &&& 63)) ||| (((((XT.ushrL v (32 : Int32)).toInt32).toInt8.toInt32).toInt8.toInt32) &&& (255 : Int32)).toInt64) <<< (Int32.toInt64 (8 : Int32) &&& 63)) ||| (((((XT.ushrL v (24 : Int32)).toInt32).toInt8.toInt32).toInt8.toInt32) &&& (255 : Int32)).toInt64) <<< (Int32.toInt64 (8 : Int32) &&& 63)) ||| (((((XT.ushrL v (16 : Int32)).toInt32).toInt8.toInt32).toInt8.toInt32) &&& (255 : Int32)).toInt64) <<< (Int32.toInt64 (8 : Int32) &&& 63)) ||| (((((XT.ushrL v (8 : Int32)).toInt32).toInt8.toInt32).toInt8.toInt32) &&& (255 : Int32)).toInt64) <<< (Int32.toInt64 (8 : Int32) &&& 63)) ||| (v.toInt32.toInt8.toInt32.toInt8.toInt32 &&& (255 : Int32)).toInt64) (12 : Int32)) * (1000 : Int64)) + ((((((((((((((((((((0 : Int64) <<< (Int32.toInt64 (8 : Int32) &&& 63)) ||| (((((XT.ushrL v (56 : Int32)).toInt32).toInt8.toInt32).toInt8.toInt32) &&& (255 : Int32)).toInt64) <<< (Int32.toInt64 (8 : Int32) &&& 63)) ||| (((((XT.ushrL v (48 : Int32)).toInt32).toInt8.toInt32).toInt8.toInt32) &&& (255 : Int32)).toInt64) <<< (Int32.toInt64 (8 : Int32) &&& 63)) ||| (((((XT.ushrL v (40 : Int32)).toInt32).toInt8.toInt32).toInt8.toInt32) &&& (255 : Int32)).toInt64) <<< (Int32.toInt64 (8 : Int32) &&& 63)) ||| (((((XT.ushrL v (32 : Int32)).toInt32).toInt8.toInt32).toInt8.toInt32) &&& (255 : Int32)).toInt64) <<< (Int32.toInt64 (8 : Int32) &&& 63)) ||| (((((XT.ushrL v (24 : Int32)).toInt32).toInt8.toInt32).toInt8.toInt32) &&& (255 : Int32)).toInt64) <<< (Int32.toInt64 (8 : Int32) &&& 63)) ||| (((((XT.ushrL v (16 : Int32)).toInt32).toInt8.toInt32).toInt8.toInt32) &&& (255 : Int32)).toInt64) <<< (Int32.toInt64 (8 : Int32) &&& 63)) ||| (((((XT.ushrL v (8 : Int32)).toInt32).toInt8.toInt32).toInt8.toInt32) &&& (255 : Int32)).toInt64) <<< (Int32.toInt64 (8 : Int32) &&& 63)) ||| (v.toInt32.toInt8.toInt32.toInt8.toInt32 &&& (255 : Int32)).toInt64) &&& (4095 : Int64)) * (1000 : Int64)) / (4096 : Int64))) - (2208988800000000000 : Int64)))]))
    refine Own.lstore X62 hx (pc := 340) #[.val (.long v), .second, .val (.int ep), .val (.long fl), .second, .val (.int off), .val (.int (3 : Int32)), .val (.ref b2), .val (.long ((((XT.ushrL (((((((((((((((((0 : Int64) <<< (Int32.toInt64 (8 : Int32) &&& 63)) ||| (((((XT.ushrL v (56 : Int32)).toInt32).toInt8.toInt32).toInt8.toInt32) &&& (255 : Int32)).toInt64) <<< (Int32.toInt64 (8 : Int32) &&& 63)) ||| (((((XT.ushrL v (48 : Int32)).toInt32).toInt8.toInt32).toInt8.toInt32) &&& (255 : Int32)).toInt64) <<< (Int32.toInt64 (8 : Int32) &&& 63)) ||| (((((XT.ushrL v (40 : Int32)).toInt32).toInt8.toInt32).toInt8.toInt32) &&& (255 : Int32)).toInt64) <<< (Int32.toInt64 (8 : Int32) &&& 63)) ||| (((((XT.ushrL v (32 : Int32)).toInt32).toInt8.toInt32).toInt8.toInt32) &&& (255 : Int32)).toInt64) <<< (Int32.toInt64 (8 : Int32) &&& 63)) ||| (((((XT.ushrL v (24 : Int32)).toInt32).toInt8.toInt32).toInt8.toInt32) &&& (255 : Int32)).toInt64) <<< (Int32.toInt64 (8 : Int32) &&& 63)) ||| (((((XT.ushrL v (16 : Int32)).toInt32).toInt8.toInt32).toInt8.toInt32) &&& (255 : Int32)).toInt64) <<< (Int32.toInt64 (8 : Int32) &&& 63)) ||| (((((XT.ushrL v (8 : Int32)).toInt32).toInt8.toInt32).toInt8.toInt32) &&& (255 : Int32)).toInt64) <<< (Int32.toInt64 (8 : Int32) &&& 63)) ||| (v.toInt32.toInt8.toInt32.toInt8.toInt32 &&& (255 : Int32)).toInt64) (12 : Int32)) * (1000 : Int64)) + ((((((((((((((((((((0 : Int64) <<< (Int32.toInt64 (8 : Int32) &&& 63)) ||| (((((XT.ushrL v (56 : Int32)).toInt32).toInt8.toInt32).toInt8.toInt32) &&& (255 : Int32)).toInt64) <<< (Int32.toInt64 (8 : Int32) &&& 63)) ||| (((((XT.ushrL v (48 : Int32)).toInt32).toInt8.toInt32).toInt8.toInt32) &&& (255 : Int32)).toInt64) <<< (Int32.toInt64 (8 : Int32) &&& 63)) ||| (((((XT.ushrL v (40 : Int32)).toInt32).toInt8.toInt32).toInt8.toInt32) &&& (255 : Int32)).toInt64) <<< (Int32.toInt64 (8 : Int32) &&& 63)) ||| (((((XT.ushrL v (32 : Int32)).toInt32).toInt8.toInt32).toInt8.toInt32) &&& (255 : Int32)).toInt64) <<< (Int32.toInt64 (8 : Int32) &&& 63)) ||| (((((XT.ushrL v (24 : Int32)).toInt32).toInt8.toInt32).toInt8.toInt32) &&& (255 : Int32)).toInt64) <<< (Int32.toInt64 (8 : Int32) &&& 63)) ||| (((((XT.ushrL v (16 : Int32)).toInt32).toInt8.toInt32).toInt8.toInt32) &&& (255 : Int32)).toInt64) <<< (Int32.toInt64 (8 : Int32) &&& 63)) ||| (((((XT.ushrL v (8 : Int32)).toInt32).toInt8.toInt32).toInt8.toInt32) &&& (255 : Int32)).toInt64) <<< (Int32.toInt64 (8 : Int32) &&& 63)) ||| (v.toInt32.toInt8.toInt32.toInt8.toInt32 &&& (255 : Int32)).toInt64) &&& (4095 : Int64)) * (1000 : Int64)) / (4096 : Int64))) - (2208988800000000000 : Int64))), .second, .unset, .unset, .unset, .unset, .unset, .unset] (hb hby at_340) rfl ?_
    refine Own.lloadN X62 hx (pc := 342) (hb hby at_342) rfl ?_
    refine Own.bipush X62 hx (pc := 343) (9 : Int32) (hb hby at_343) (by decide) ?_
    refine Own.lushr X62 hx (pc := 345) (hb hby at_345) ?_
    refine Own.lstore X62 hx (pc := 346) #[.val (.long v), .second, .val (.int ep), .val (.long fl), .second, .val (.int off), .val (.int (3 : Int32)), .val (.ref b2), .val (.long ((((XT.ushrL (((((((((((((((((0 : Int64) <<< (Int32.toInt64 (8 : Int32) &&& 63)) ||| (((((XT.ushrL v (56 : Int32)).toInt32).toInt8.toInt32).toInt8.toInt32) &&& (255 : Int32)).toInt64) <<< (Int32.toInt64 (8 : Int32) &&& 63)) ||| (((((XT.ushrL v (48 : Int32)).toInt32).toInt8.toInt32).toInt8.toInt32) &&& (255 : Int32)).toInt64) <<< (Int32.toInt64 (8 : Int32) &&& 63)) ||| (((((XT.ushrL v (40 : Int32)).toInt32).toInt8.toInt32).toInt8.toInt32) &&& (255 : Int32)).toInt64) <<< (Int32.toInt64 (8 : Int32) &&& 63)) ||| (((((XT.ushrL v (32 : Int32)).toInt32).toInt8.toInt32).toInt8.toInt32) &&& (255 : Int32)).toInt64) <<< (Int32.toInt64 (8 : Int32) &&& 63)) ||| (((((XT.ushrL v (24 : Int32)).toInt32).toInt8.toInt32).toInt8.toInt32) &&& (255 : Int32)).toInt64) <<< (Int32.toInt64 (8 : Int32) &&& 63)) ||| (((((XT.ushrL v (16 : Int32)).toInt32).toInt8.toInt32).toInt8.toInt32) &&& (255 : Int32)).toInt64) <<< (Int32.toInt64 (8 : Int32) &&& 63)) ||| (((((XT.ushrL v (8 : Int32)).toInt32).toInt8.toInt32).toInt8.toInt32) &&& (255 : Int32)).toInt64) <<< (Int32.toInt64 (8 : Int32) &&& 63)) ||| (v.toInt32.toInt8.toInt32.toInt8.toInt32 &&& (255 : Int32)).toInt64) (12 : Int32)) * (1000 : Int64)) + ((((((((((((((((((((0 : Int64) <<< (Int32.toInt64 (8 : Int32) &&& 63)) ||| (((((XT.ushrL v (56 : Int32)).toInt32).toInt8.toInt32).toInt8.toInt32) &&& (255 : Int32)).toInt64) <<< (Int32.toInt64 (8 : Int32) &&& 63)) ||| (((((XT.ushrL v (48 : Int32)).toInt32).toInt8.toInt32).toInt8.toInt32) &&& (255 : Int32)).toInt64) <<< (Int32.toInt64 (8 : Int32) &&& 63)) ||| (((((XT.ushrL v (40 : Int32)).toInt32).toInt8.toInt32).toInt8.toInt32) &&& (255 : Int32)).toInt64) <<< (Int32.toInt64 (8 : Int32) &&& 63)) ||| (((((XT.ushrL v (32 : Int32)).toInt32).toInt8.toInt32).toInt8.toInt32) &&& (255 : Int32)).toInt64) <<< (Int32.toInt64 (8 : Int32) &&& 63)) ||| (((((XT.ushrL v (24 : Int32)).toInt32).toInt8.toInt32).toInt8.toInt32) &&& (255 : Int32)).toInt64) <<< (Int32.toInt64 (8 : Int32) &&& 63)) ||| (((((XT.ushrL v (16 : Int32)).toInt32).toInt8.toInt32).toInt8.toInt32) &&& (255 : Int32)).toInt64) <<< (Int32.toInt64 (8 : Int32) &&& 63)) ||| (((((XT.ushrL v (8 : Int32)).toInt32).toInt8.toInt32).toInt8.toInt32) &&& (255 : Int32)).toInt64) <<< (Int32.toInt64 (8 : Int32) &&& 63)) ||| (v.toInt32.toInt8.toInt32.toInt8.toInt32 &&& (255 : Int32)).toInt64) &&& (4095 : Int64)) * (1000 : Int64)) / (4096 : Int64))) - (2208988800000000000 : Int64))), .second, .val (.long (XT.ushrL v (9 : Int32))), .second, .unset, .unset, .unset, .unset] (hb hby at_346) rfl ?_
    refine Own.lloadN X62 hx (pc := 348) (hb hby at_348) rfl ?_
    refine Own.ldc2J X62 hx hZ (pc := 349) hown (Wd hw 12 rfl) (hb hby at_349) ?_
    refine Own.land X62 hx (pc := 352) (hb hby at_352) ?_
    refine Own.lstore X62 hx (pc := 353) #[.val (.long v), .second, .val (.int ep), .val (.long fl), .second, .val (.int off), .val (.int (3 : Int32)), .val (.ref b2), .val (.long ((((XT.ushrL (((((((((((((((((0 : Int64) <<< (Int32.toInt64 (8 : Int32) &&& 63)) ||| (((((XT.ushrL v (56 : Int32)).toInt32).toInt8.toInt32).toInt8.toInt32) &&& (255 : Int32)).toInt64) <<< (Int32.toInt64 (8 : Int32) &&& 63)) ||| (((((XT.ushrL v (48 : Int32)).toInt32).toInt8.toInt32).toInt8.toInt32) &&& (255 : Int32)).toInt64) <<< (Int32.toInt64 (8 : Int32) &&& 63)) ||| (((((XT.ushrL v (40 : Int32)).toInt32).toInt8.toInt32).toInt8.toInt32) &&& (255 : Int32)).toInt64) <<< (Int32.toInt64 (8 : Int32) &&& 63)) ||| (((((XT.ushrL v (32 : Int32)).toInt32).toInt8.toInt32).toInt8.toInt32) &&& (255 : Int32)).toInt64) <<< (Int32.toInt64 (8 : Int32) &&& 63)) ||| (((((XT.ushrL v (24 : Int32)).toInt32).toInt8.toInt32).toInt8.toInt32) &&& (255 : Int32)).toInt64) <<< (Int32.toInt64 (8 : Int32) &&& 63)) ||| (((((XT.ushrL v (16 : Int32)).toInt32).toInt8.toInt32).toInt8.toInt32) &&& (255 : Int32)).toInt64) <<< (Int32.toInt64 (8 : Int32) &&& 63)) ||| (((((XT.ushrL v (8 : Int32)).toInt32).toInt8.toInt32).toInt8.toInt32) &&& (255 : Int32)).toInt64) <<< (Int32.toInt64 (8 : Int32) &&& 63)) ||| (v.toInt32.toInt8.toInt32.toInt8.toInt32 &&& (255 : Int32)).toInt64) (12 : Int32)) * (1000 : Int64)) + ((((((((((((((((((((0 : Int64) <<< (Int32.toInt64 (8 : Int32) &&& 63)) ||| (((((XT.ushrL v (56 : Int32)).toInt32).toInt8.toInt32).toInt8.toInt32) &&& (255 : Int32)).toInt64) <<< (Int32.toInt64 (8 : Int32) &&& 63)) ||| (((((XT.ushrL v (48 : Int32)).toInt32).toInt8.toInt32).toInt8.toInt32) &&& (255 : Int32)).toInt64) <<< (Int32.toInt64 (8 : Int32) &&& 63)) ||| (((((XT.ushrL v (40 : Int32)).toInt32).toInt8.toInt32).toInt8.toInt32) &&& (255 : Int32)).toInt64) <<< (Int32.toInt64 (8 : Int32) &&& 63)) ||| (((((XT.ushrL v (32 : Int32)).toInt32).toInt8.toInt32).toInt8.toInt32) &&& (255 : Int32)).toInt64) <<< (Int32.toInt64 (8 : Int32) &&& 63)) ||| (((((XT.ushrL v (24 : Int32)).toInt32).toInt8.toInt32).toInt8.toInt32) &&& (255 : Int32)).toInt64) <<< (Int32.toInt64 (8 : Int32) &&& 63)) ||| (((((XT.ushrL v (16 : Int32)).toInt32).toInt8.toInt32).toInt8.toInt32) &&& (255 : Int32)).toInt64) <<< (Int32.toInt64 (8 : Int32) &&& 63)) ||| (((((XT.ushrL v (8 : Int32)).toInt32).toInt8.toInt32).toInt8.toInt32) &&& (255 : Int32)).toInt64) <<< (Int32.toInt64 (8 : Int32) &&& 63)) ||| (v.toInt32.toInt8.toInt32.toInt8.toInt32 &&& (255 : Int32)).toInt64) &&& (4095 : Int64)) * (1000 : Int64)) / (4096 : Int64))) - (2208988800000000000 : Int64))), .second, .val (.long (XT.ushrL v (9 : Int32))), .second, .val (.long (v &&& (511 : Int64))), .second, .unset, .unset] (hb hby at_353) rfl ?_
    refine Own.lload X62 hx (pc := 355) (hb hby at_355) rfl ?_
    refine Own.ldc2J X62 hx hZ (pc := 357) hown (Wd hw 13 rfl) (hb hby at_357) ?_
    refine Own.lmul X62 hx (pc := 360) (hb hby at_360) ?_
    refine Own.lload X62 hx (pc := 361) (hb hby at_361) rfl ?_
    refine Own.ldc2J X62 hx hZ (pc := 363) hown (Wd hw 13 rfl) (hb hby at_363) ?_
    refine Own.lmul X62 hx (pc := 366) (hb hby at_366) ?_
    refine Own.ldc2J X62 hx hZ (pc := 367) hown (Wd hw 14 rfl) (hb hby at_367) ?_
    refine Own.ldiv X62 hx (pc := 370) (hb hby at_370) (by decide) ?_
    refine Own.ladd X62 hx (pc := 371) (hb hby at_371) ?_
    refine Own.ldc2J X62 hx hZ (pc := 372) hown (Wd hw 15 rfl) (hb hby at_372) ?_
    refine Own.lsub X62 hx (pc := 375) (hb hby at_375) ?_
    refine Own.lstore X62 hx (pc := 376) #[.val (.long v), .second, .val (.int ep), .val (.long fl), .second, .val (.int off), .val (.int (3 : Int32)), .val (.ref b2), .val (.long ((((XT.ushrL (((((((((((((((((0 : Int64) <<< (Int32.toInt64 (8 : Int32) &&& 63)) ||| (((((XT.ushrL v (56 : Int32)).toInt32).toInt8.toInt32).toInt8.toInt32) &&& (255 : Int32)).toInt64) <<< (Int32.toInt64 (8 : Int32) &&& 63)) ||| (((((XT.ushrL v (48 : Int32)).toInt32).toInt8.toInt32).toInt8.toInt32) &&& (255 : Int32)).toInt64) <<< (Int32.toInt64 (8 : Int32) &&& 63)) ||| (((((XT.ushrL v (40 : Int32)).toInt32).toInt8.toInt32).toInt8.toInt32) &&& (255 : Int32)).toInt64) <<< (Int32.toInt64 (8 : Int32) &&& 63)) ||| (((((XT.ushrL v (32 : Int32)).toInt32).toInt8.toInt32).toInt8.toInt32) &&& (255 : Int32)).toInt64) <<< (Int32.toInt64 (8 : Int32) &&& 63)) ||| (((((XT.ushrL v (24 : Int32)).toInt32).toInt8.toInt32).toInt8.toInt32) &&& (255 : Int32)).toInt64) <<< (Int32.toInt64 (8 : Int32) &&& 63)) ||| (((((XT.ushrL v (16 : Int32)).toInt32).toInt8.toInt32).toInt8.toInt32) &&& (255 : Int32)).toInt64) <<< (Int32.toInt64 (8 : Int32) &&& 63)) ||| (((((XT.ushrL v (8 : Int32)).toInt32).toInt8.toInt32).toInt8.toInt32) &&& (255 : Int32)).toInt64) <<< (Int32.toInt64 (8 : Int32) &&& 63)) ||| (v.toInt32.toInt8.toInt32.toInt8.toInt32 &&& (255 : Int32)).toInt64) (12 : Int32)) * (1000 : Int64)) + ((((((((((((((((((((0 : Int64) <<< (Int32.toInt64 (8 : Int32) &&& 63)) ||| (((((XT.ushrL v (56 : Int32)).toInt32).toInt8.toInt32).toInt8.toInt32) &&& (255 : Int32)).toInt64) <<< (Int32.toInt64 (8 : Int32) &&& 63)) ||| (((((XT.ushrL v (48 : Int32)).toInt32).toInt8.toInt32).toInt8.toInt32) &&& (255 : Int32)).toInt64) <<< (Int32.toInt64 (8 : Int32) &&& 63)) ||| (((((XT.ushrL v (40 : Int32)).toInt32).toInt8.toInt32).toInt8.toInt32) &&& (255 : Int32)).toInt64) <<< (Int32.toInt64 (8 : Int32) &&& 63)) ||| (((((XT.ushrL v (32 : Int32)).toInt32).toInt8.toInt32).toInt8.toInt32) &&& (255 : Int32)).toInt64) <<< (Int32.toInt64 (8 : Int32) &&& 63)) ||| (((((XT.ushrL v (24 : Int32)).toInt32).toInt8.toInt32).toInt8.toInt32) &&& (255 : Int32)).toInt64) <<< (Int32.toInt64 (8 : Int32) &&& 63)) ||| (((((XT.ushrL v (16 : Int32)).toInt32).toInt8.toInt32).toInt8.toInt32) &&& (255 : Int32)).toInt64) <<< (Int32.toInt64 (8 : Int32) &&& 63)) ||| (((((XT.ushrL v (8 : Int32)).toInt32).toInt8.toInt32).toInt8.toInt32) &&& (255 : Int32)).toInt64) <<< (Int32.toInt64 (8 : Int32) &&& 63)) ||| (v.toInt32.toInt8.toInt32.toInt8.toInt32 &&& (255 : Int32)).toInt64) &&& (4095 : Int64)) * (1000 : Int64)) / (4096 : Int64))) - (2208988800000000000 : Int64))), .second, .val (.long (XT.ushrL v (9 : Int32))), .second, .val (.long (v &&& (511 : Int64))), .second, .val (.long ((((XT.ushrL v (9 : Int32)) * (125 : Int64)) + (((v &&& (511 : Int64)) * (125 : Int64)) / (512 : Int64))) - (2208988800000000000 : Int64))), .second] (hb hby at_376) rfl ?_
    refine Own.lload X62 hx (pc := 378) (hb hby at_378) rfl ?_
    refine Own.lload X62 hx (pc := 380) (hb hby at_380) rfl ?_
    refine Own.lcmp X62 hx (pc := 382) (hb hby at_382) ?_
    refine Own.ifNo X62 hx (pc := 383) (hb hby at_383) (XT.ll_ne_f (own_nanos v)) ?_
    refine Own.iconst X62 hx (pc := 386) (1 : Int32) (hb hby at_386) (by decide) ?_
    refine Own.goto X62 hx (pc := 387) 391 (hb hby at_387) (by decide) (by decide) ?_
    exact Own.ireturn X62 hx hk hret (by simp) rfl (hb hby at_391) e62 ⟨rfl, N62⟩ (by decide) (by decide)
set_option maxRecDepth 65536 in
set_option maxHeartbeats 40000000 in
theorem comes_1 {Post : Tables → Env → Array Value → State → Outcome → State → Prop} (hpost : ∀ tb e args s v u, (limb_1_1.after args s (.returned v) u = true ∧ limb_1_2.after args s (.returned v) u = true ∧ True) → FrameEnd s (.returned v) u (Jvm.fieldLocs frame_1_writes args s ++ Jvm.arrayLocs frame_1_arrays args s ++ Jvm.staticLocs frame_1_statics s) 16 128 → Post tb e args s (.returned v) u) :
    ArmFor flags0 classFile x code maxLocals ret World_1 tables_1 room_1 Calls_1 rest_1 Pre_1 Post := by
  intro l hfl _ _ p e ha hc hk s m args below hf hA hF happ hP
  obtain ⟨hcalls, hrest, hpre⟩ := hP
  obtain ⟨-, -, -, hnamed, -, -, -, hat⟩ := (Spec.applies_iff hf).mp happ
  obtain ⟨hg, hn⟩ := and_e (Cond.before_iff.mp (show (Jvm.Cond.and given_1 narrow_1).before args s = true from hpre))
  obtain ⟨hcount, r0⟩ := and_e hg
  obtain ⟨g0, r1⟩ := and_e r0
  obtain ⟨g1, r2⟩ := and_e r1
  obtain ⟨g2, r3⟩ := and_e r2
  obtain ⟨w0, w1, w2, w3, rfl⟩ : ∃ w0 w1 w2 w3 : Value, args = #[w0, w1, w2, w3] := by
    have hs : args.size = 4 := by simpa [Cond.value, given_1] using hcount
    obtain ⟨L⟩ := args
    match L, hs with
    | [w0, w1, w2, w3], _ => exact ⟨w0, w1, w2, w3, rfl⟩
  have hw := fun d (hd : d ∈ tables_1) => atoms_spec (ws := Jvm.Cond.code x code maxLocals ret :: tables_1) hat d (List.mem_cons_of_mem _ hd)
  obtain ⟨i0, e0⟩ := isL_v g0
  obtain rfl : w0 = (.long i0) := Option.some.inj e0
  obtain ⟨i1, e1⟩ := is_v g1
  obtain rfl : w1 = (.int i1) := Option.some.inj e1
  obtain ⟨i2, e2⟩ := isL_v g2
  obtain rfl : w2 = (.long i2) := Option.some.inj e2
  obtain ⟨i3, e3⟩ := is_v r3
  obtain rfl : w3 = (.int i3) := Option.some.inj e3
  obtain ⟨n, o, h1, h2, h3, _, L, rfl, ⟨rfl, N⟩, hq⟩ := rm0 l s _ hw i0 i1 i2 i3 s.heap s.heap.size (Nat.le_refl _) p e ha hc hk s m _ below hf ((Spec.applies_iff_loose hf).mp happ).1 ⟨rfl, State.Warmed39.refl s, rfl⟩ trivial
  refine ⟨n, _, h1, h2, h3, hpost _ _ _ _ _ _ ⟨Cond.after_iff.mpr rfl, Cond.after_iff.mpr (eq_i res_at (Term.int_eval (1)) rfl), trivial⟩ ⟨hq.1, hq.2.1, (hq.2.2.sift fun y hy => Or.inr (N y hy)).mono (by decide) (by decide)⟩⟩
theorem main_1_1 : Claimed_1_1 := comes_1 fun _ _ _ _ _ _ h hF => ⟨h.1, hF⟩
theorem main_1_2 : Claimed_1_2 := comes_1 fun _ _ _ _ _ _ h hF => ⟨h.2.1, hF⟩
end Jvm.Pilot.@@N@@
namespace Jvm.Pilot.@@N@@
open Jvm Jvm.ClassFile Sem Op Lib Jvm.Free Jvm.Stand Jvm.Pilot.@@N@@.Jvm.D
/-! MADE BY PROGRAM (witnessworld.py) out of the Statement's table words and the real class files: 9 classes; the members and pool entries that the words name. The judged class is class 1, her method 1. -/
namespace start1
open Jvm.ClassFile
def u (s : String) : CpInfo := .utf8 (stringToUtf16 s)
/-- a pool by its gaps: so many unusable entries, then the entry; so many at the end -/
def gap : Nat → List CpInfo → List CpInfo
  | 0, r => r
  | n + 1, r => .unusable :: gap n r
def poolList (es : List (Nat × CpInfo)) (last : Nat) : List CpInfo := es.foldr (fun e r => gap e.1 (e.2 :: r)) (gap last [])
def pool (es : List (Nat × CpInfo)) (last : Nat) : Array CpInfo := ⟨poolList es last⟩
def fileOf (pool : Array CpInfo) (this : Nat) (attrs : Array Attribute := #[]) (ms : Array MethodInfo := #[]) (fl : Nat := 33) (sup : Nat := 0) (ifs : Array Nat := #[]) (fds : Array FieldInfo := #[]) : ClassFile where
  minorVersion := 0
  majorVersion := 65
  constantPool := pool
  accessFlags := fl
  thisClass := this
  superClass := sup
  interfaces := ifs
  fields := fds
  methods := ms
  attributes := attrs
def plain (name : String) (sup : Option ClassId) : Class where
  name := name
  kind := .ordinary
  loader := none
  accessFlags := 33
  super := sup
  interfaces := #[]
  cf := none
  fields := #[]
  methods := #[]
  instanceTypes := #[]
  staticTypes := #[]
  resolved := #[]
  callSites := []
  init := .initialized
  statics := none
  mirror := none

def pool0 : Array CpInfo := pool [(5, u "<init>"), (0, u "()V"), (1, .class_ 10), (1, u "java/lang/Object")] 113

def k0m0 : Method := { name := "<init>", desc := "()V", sig := { parameters := [], returnType := none }, accessFlags := 1, code := none }
/-- java/lang/Object -/
def k0 : Class := { plain "java/lang/Object" none with
  accessFlags := 33
  interfaces := #[]
  cf := some (fileOf pool0 8 #[] #[{ accessFlags := 1, nameIndex := 5, descriptorIndex := 6, attributes := #[] }] 33 0 #[] #[])
  fields := #[]
  methods := #[k0m0]
  instanceTypes := #[]
  staticTypes := #[]
  resolved := Array.replicate 124 none
  statics := none }

def pool1 : Array CpInfo := pool [(2, .class_ 4), (1, u "java/lang/Object"), (0, u "<init>"), (0, u "()V"), (0, .methodref 8 9), (0, .class_ 10), (0, .nameAndType 11 12), (0, u "com/example/traceloom/traceloom/smf/Stcke"), (0, u "unixNanos"), (0, u "([BI)J"), (0, .long 511), (1, .long 125), (1, .long 512), (1, .long 2208988800000000000), (1, .class_ 22), (0, u "com/example/traceloom/traceloom/smf/StckeUnixNanosPinLaw"), (2, u "law"), (0, u "(JIJI)Z")] 5

def k1m0 : Method := { name := "<init>", desc := "()V", sig := { parameters := [], returnType := none }, accessFlags := 2, code := none }
def k1c1 : Code := { maxStack := 6, maxLocals := 16, code := code, exceptionTable := #[], attributes := #[] }
def k1m1 : Method := { name := "law", desc := "(JIJI)Z", sig := { parameters := [.long, .int, .long, .int], returnType := some .boolean }, accessFlags := 9, code := some k1c1 }
/-- com/example/traceloom/traceloom/smf/StckeUnixNanosPinLaw -/
def k1 : Class := { plain "com/example/traceloom/traceloom/smf/StckeUnixNanosPinLaw" (some 0) with
  accessFlags := 49
  interfaces := #[]
  cf := some (fileOf pool1 21 #[] #[{ accessFlags := 2, nameIndex := 5, descriptorIndex := 6, attributes := #[] }, { accessFlags := 9, nameIndex := 25, descriptorIndex := 26, attributes := #[] }] 49 2 #[] #[])
  fields := #[]
  methods := #[k1m0, k1m1]
  instanceTypes := #[]
  staticTypes := #[]
  resolved := Array.replicate 32 none
  statics := none }

def pool2 : Array CpInfo := pool [(2, .class_ 4), (1, u "java/lang/Object"), (0, u "<init>"), (0, u "()V"), (0, .methodref 8 9), (0, .class_ 10), (0, .nameAndType 11 12), (0, u "com/example/traceloom/traceloom/smf/Stcke"), (0, u "tod"), (0, u "([BI)J"), (0, .long 4095), (1, .long 1000), (1, .long 4096), (1, .long 2208988800000000000), (3, u "LENGTH"), (0, u "I"), (2, u "UNITS_PER_MICROSECOND"), (1, u "NANOS_1900_TO_1970"), (0, u "J"), (2, u "unixNanos")] 5

def k2m0 : Method := { name := "<init>", desc := "()V", sig := { parameters := [], returnType := none }, accessFlags := 2, code := none }
def k2c1 : Code := { maxStack := 6, maxLocals := 8, code := prog_44_method_2_code, exceptionTable := #[], attributes := #[] }
def k2m1 : Method := { name := "unixNanos", desc := "([BI)J", sig := { parameters := [(.array .byte), .int], returnType := some .long }, accessFlags := 8, code := some k2c1 }
def k2c2 : Code := { maxStack := 5, maxLocals := 5, code := prog_44_method_3_code, exceptionTable := #[], attributes := #[] }
def k2m2 : Method := { name := "tod", desc := "([BI)J", sig := { parameters := [(.array .byte), .int], returnType := some .long }, accessFlags := 8, code := some k2c2 }
/-- com/example/traceloom/traceloom/smf/Stcke -/
def k2 : Class := { plain "com/example/traceloom/traceloom/smf/Stcke" (some 0) with
  accessFlags := 48
  interfaces := #[]
  cf := some (fileOf pool2 8 #[] #[{ accessFlags := 2, nameIndex := 5, descriptorIndex := 6, attributes := #[] }, { accessFlags := 8, nameIndex := 33, descriptorIndex := 12, attributes := #[] }, { accessFlags := 8, nameIndex := 11, descriptorIndex := 12, attributes := #[] }] 48 2 #[] #[{ accessFlags := 24, nameIndex := 23, descriptorIndex := 24, attributes := #[] }, { accessFlags := 26, nameIndex := 27, descriptorIndex := 24, attributes := #[] }, { accessFlags := 26, nameIndex := 29, descriptorIndex := 30, attributes := #[] }])
  fields := #[{ name := "LENGTH", type := .int, accessFlags := 24, slot := 0, constantValue := 0 }, { name := "UNITS_PER_MICROSECOND", type := .int, accessFlags := 26, slot := 1, constantValue := 0 }, { name := "NANOS_1900_TO_1970", type := .long, accessFlags := 26, slot := 2, constantValue := 0 }]
  methods := #[k2m0, k2m1, k2m2]
  instanceTypes := #[]
  staticTypes := #[.int, .int, .long]
  resolved := Array.replicate 39 none
  statics := none }

def pool3 : Array CpInfo := pool [(1, u "java/lang/Cloneable"), (0, .class_ 1), (0, u "java/lang/Object"), (0, .class_ 3)] 3

/-- java/lang/Cloneable -/
def k3 : Class := { plain "java/lang/Cloneable" (some 0) with
  accessFlags := 1537
  interfaces := #[]
  cf := some (fileOf pool3 2 #[] #[] 1537 4 #[] #[])
  fields := #[]
  methods := #[]
  instanceTypes := #[]
  staticTypes := #[]
  resolved := Array.replicate 8 none
  statics := none }

def pool4 : Array CpInfo := pool [(1, u "java/io/Serializable"), (0, .class_ 1), (0, u "java/lang/Object"), (0, .class_ 3)] 3

/-- java/io/Serializable -/
def k4 : Class := { plain "java/io/Serializable" (some 0) with
  accessFlags := 1537
  interfaces := #[]
  cf := some (fileOf pool4 2 #[] #[] 1537 4 #[] #[])
  fields := #[]
  methods := #[]
  instanceTypes := #[]
  staticTypes := #[]
  resolved := Array.replicate 8 none
  statics := none }

/-- the primitive byte -/
def k5 : Class := { plain "byte" none with kind := .primitive 'B', accessFlags := 0x411 }
/-- [B -/
def k6 : Class := { plain "[B" (some 0) with kind := .array 5 .byte, interfaces := #[3, 4], accessFlags := 1041 }

/-- the primitive int -/
def k7 : Class := { plain "int" none with kind := .primitive 'I', accessFlags := 0x411 }
/-- [I -/
def k8 : Class := { plain "[I" (some 0) with kind := .array 7 .int, interfaces := #[3, 4], accessFlags := 1041 }

def heap : Heap := #[]
def classes : Array Class := #[k0, k1, k2, k3, k4, k5, k6, k7, k8]
def interned : List (Array UInt16 × Addr) := []
def slotsUsed : Nat := 0
def theMethod : MethodId := ⟨1, 1⟩
def args0 : Array Value := #[.long 5, .int 6, .long 7, .int 1]
def aboutOver (below : List Frame) : State where
  vm := { classes := classes, interned := interned.toArray }
  heap := heap
  slotsUsed := slotsUsed
  threads := #[{ frames := .invoking theMethod args0 :: below }]
def below0 : List Frame := [.native { method := ⟨0, 0⟩, args := #[] }]
def about1 : State := aboutOver below0
def p0 : Program := .bare "" "" ""
def e0 : Env := launch0.env 0 0 0
theorem w_frames : about1.frames = Frame.invoking theMethod args0 :: below0 := rfl
set_option maxRecDepth 65536 in
theorem w_args : argsFit about1.vm theMethod args0 = true := by decide +kernel
set_option maxRecDepth 65536 in
theorem w_heap : heapFits about1 = true := by decide +kernel
set_option maxRecDepth 65536 in
theorem w_runnable : about1.curStatus? = some .runnable := by decide +kernel
set_option maxRecDepth 65536 in
theorem w_alone : about1.alone = true := by decide +kernel
set_option maxRecDepth 65536 in
theorem w_named : about1.methodNamed? x = some theMethod := by decide +kernel
set_option maxRecDepth 65536 in
theorem w_hears : about1.hears theMethod below0 = true := by decide +kernel
set_option maxRecDepth 65536 in
theorem w_ripe : about1.ripe theMethod args0 below0 = true := by decide +kernel
theorem w_running : about1.status = .running := rfl
set_option maxRecDepth 65536 in
theorem w_room : about1.hasRoom e0.platform room_1 = true :=
  launch0.hasRoom_least _ room_1 (by decide +kernel) (by decide +kernel) (by decide +kernel) (by decide +kernel) (by decide +kernel) (by decide +kernel)
theorem allAtoms_all (ts : List Jvm.Cond) (a : Array Jvm.Value) (st : Jvm.State) : (allAtoms ts).before a st = ts.all (fun c => c.before a st) := by
  induction ts with
  | nil => rfl
  | cons c t ih =>
    show (Jvm.Cond.and c (allAtoms t)).before a st = _
    rw [Jvm.Cond.before_and, ih, List.all_cons]
def words1 : List Jvm.Cond := Jvm.Cond.code x code maxLocals ret :: tables_1
/-- a 'code' word, met by the world's own term for the bytes: nothing is compared byte by byte -/
theorem code_word {y : MethodName} {bytes : ByteArray} {mx : Nat} {rt : Option FieldType} {a : Array Value} {s : State} {m : MethodId} {meth : Method} {c : Code} (h1 : s.methodNamed? y = some m) (h2 : s.vm.method? m = some meth) (h3 : meth.code = some c) (h4 : c.code = bytes)
    (h5 : (c.maxLocals == mx && c.exceptionTable.isEmpty && decide (c.maxStack ≤ mostOperands) && decide (meth.sig.returnType = rt) && !meth.locks && decide (parseMethodDescriptor y.desc = some meth.sig)) = true) : (Jvm.Cond.code y bytes mx rt).before a s = true := by
  simp only [Bool.and_eq_true, beq_iff_eq, Bool.not_eq_true', decide_eq_true_eq] at h5
  obtain ⟨⟨⟨⟨⟨g1, g2⟩, g3⟩, g4⟩, g5⟩, g6⟩ := h5
  simp [Cond.before, Cond.holds, Cond.value, h1, h2, h3, h4, g1, g2, g3, g4, g5, g6]
def isCode : Jvm.Cond → Bool
  | .code _ _ _ _ => true
  | _ => false
theorem all_split {L : List Jvm.Cond} {P : Jvm.Cond → Bool} (h1 : L.all (fun c => isCode c || P c) = true) (h2 : ∀ c ∈ L.filter isCode, P c = true) : L.all P = true := by
  refine List.all_eq_true.mpr fun c hc => ?_
  have h := List.all_eq_true.mp h1 c hc
  rcases Bool.eq_false_or_eq_true (isCode c) with hi | hi
  · exact h2 c (List.mem_filter.mpr ⟨hc, hi⟩)
  · simpa [hi] using h
set_option maxRecDepth 65536 in
theorem w_c0 : (Jvm.Cond.code x code maxLocals ret).before args0 about1 = true := code_word (m := ⟨1, 1⟩) (meth := k1m1) (c := k1c1) (by decide +kernel) rfl rfl rfl (by decide +kernel)
set_option maxRecDepth 65536 in
theorem w_c1 : (Jvm.Cond.code ({ cls := "com/example/traceloom/traceloom/smf/Stcke", name := "unixNanos", desc := "([BI)J" } : Jvm.MethodName) prog_44_method_2_code (8 : Nat) (Option.some Jvm.ClassFile.FieldType.long)).before args0 about1 = true := code_word (m := ⟨2, 1⟩) (meth := k2m1) (c := k2c1) (by decide +kernel) rfl rfl rfl (by decide +kernel)
set_option maxRecDepth 65536 in
theorem w_c2 : (Jvm.Cond.code ({ cls := "com/example/traceloom/traceloom/smf/Stcke", name := "tod", desc := "([BI)J" } : Jvm.MethodName) prog_44_method_3_code (5 : Nat) (Option.some Jvm.ClassFile.FieldType.long)).before args0 about1 = true := code_word (m := ⟨2, 2⟩) (meth := k2m2) (c := k2c2) (by decide +kernel) rfl rfl rfl (by decide +kernel)
def codes1 : List Jvm.Cond := [Jvm.Cond.code x code maxLocals ret, Jvm.Cond.code ({ cls := "com/example/traceloom/traceloom/smf/Stcke", name := "unixNanos", desc := "([BI)J" } : Jvm.MethodName) prog_44_method_2_code (8 : Nat) (Option.some Jvm.ClassFile.FieldType.long), Jvm.Cond.code ({ cls := "com/example/traceloom/traceloom/smf/Stcke", name := "tod", desc := "([BI)J" } : Jvm.MethodName) prog_44_method_3_code (5 : Nat) (Option.some Jvm.ClassFile.FieldType.long)]
set_option maxRecDepth 65536 in
theorem codes_eq : words1.filter isCode = codes1 := rfl
theorem w_codes : ∀ c ∈ words1.filter isCode, c.before args0 about1 = true := by
  rw [codes_eq]
  intro c hc
  simp only [codes1, List.mem_cons, List.not_mem_nil, or_false] at hc
  rcases hc with rfl | rfl | rfl
  · exact w_c0
  · exact w_c1
  · exact w_c2
set_option maxRecDepth 65536 in
theorem w_t1 : words1.all (fun c => isCode c || c.before args0 about1) = true := by decide +kernel
theorem w_tables : (allAtoms (Jvm.Cond.code x code maxLocals ret :: tables_1)).before args0 about1 = true := by
  rw [allAtoms_all]
  show words1.all (fun c => c.before args0 about1) = true
  refine all_split ?_ w_codes
  rw [w_t1]
set_option maxRecDepth 65536 in
theorem w_case : (Jvm.Cond.and given_1 narrow_1).before args0 about1 = true := by decide +kernel
theorem w_applies : (headSpec (Jvm.Cond.code x code maxLocals ret :: tables_1) room_1).applies x e0.platform about1 = true :=
  (Spec.applies_iff w_frames).mpr ⟨w_running, w_runnable, w_alone, w_named, w_hears, w_ripe, w_room, w_tables⟩
theorem atStart : AtStart classFile x code maxLocals ret World_1 tables_1 room_1 Calls_1 rest_1 Pre_1 launch0 p0 e0 about1 theMethod args0 below0 :=
  ⟨lists_1, trivial, launch0.admits_env _ _ _, launch0.least_env, fairChoices_fair.cas, fairChoices_fair.clock, w_frames, w_args, w_heap, w_applies, trivial, trivial, w_case⟩
end start1
theorem witness_1 : WitnessClaimed_1 := ⟨start1.p0, start1.e0, start1.about1, start1.theMethod, start1.args0, start1.below0, start1.atStart⟩
end Jvm.Pilot.@@N@@
