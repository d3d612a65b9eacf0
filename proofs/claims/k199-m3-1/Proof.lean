import JvmDerived
import JvmDerived.Pilot.@@N@@Statement
import JvmDerived.Pilot.@@N@@Code
set_option linter.unusedVariables false
set_option linter.unusedSimpArgs false
namespace Jvm.Own
open Sem ClassFile Op Lib Jvm.Stand Jvm.Free Jvm.LawKit Jvm.RoadKit
/-! ### what is left to walk, and one law a step -/
def Go (p : Program) (e : Env) (below : List Frame) (P : Outcome → State → Prop) (S : State) : Prop :=
  ∃ s₂ o, Steps p.tables e below S s₂ ∧ s₂.status = .running ∧ Ended s₂ below o ∧ P o s₂
def Fini (s : State) (Q : Option Value → Heap → List Loc → Prop) (k n : Nat) (o : Outcome) (U : State) : Prop :=
  ∃ v L, o = .returned v ∧ Q v U.heap L ∧ FrameEnd s o U L k n
def Ct (l : Launch) (y : MethodName) (bytes : ByteArray) (maxL : Nat) (ret : Option FieldType) (ws : List Jvm.Cond) (rm : Room) (Z : State) (as : Array Value) (h : Heap) (Q : Option Value → Heap → List Loc → Prop) : Prop :=
  MetFree l y (head1 (Jvm.Cond.code y bytes maxL ret :: ws) rm) (fun a U => a = as ∧ Z.Warmed39 U.vm ∧ U.heap = h) (fun _ _ _ _ _ => True) (fun _ U o U' => ∃ v L, o = .returned v ∧ Q v U'.heap L ∧ FrameEnd U o U' L rm.cells rm.slots)
section Walk
variable {p : Program} {l : Launch} {e : Env} {R : Room} {s : State} {m : MethodId} {args : Array Value} {below : List Frame} {meth : Method} {c : Code} {T : State} {locs : List Loc} {cells slots : Nat} {P : Outcome → State → Prop} {Z : State} {a0 : Array Value} {h : Heap}
variable {pc : Nat} {L : Array Slot} {rest st : List Value}
theorem Go.via {A B : State} (q : ∀ t, Steps p.tables e below B t → Steps p.tables e below A t) (k : Go p e below P B) : Go p e below P A := by
  obtain ⟨s2, o, h1, h2⟩ := k
  exact ⟨s2, o, q _ h1, h2⟩
theorem Go.tr {A B : State} (q : Steps p.tables e below A B) (k : Go p e below P B) : Go p e below P A := Go.via (fun _ r => q.trans r) k
theorem enter {y : MethodName} {bytes : ByteArray} {maxL : Nat} {ret : Option FieldType} {ws : List Jvm.Cond} {rm : Room} {as : Array Value} {Q : Option Value → Heap → List Loc → Prop} (hy : plainFor y = true)
    (body : ∀ p e s m below meth c s₁, p.tables.exec = Jvm.exec → c.code = bytes → c.maxLocals = maxL → s.vm.findClass y.cls = some m.cls → meth.name = y.name → meth.sig.returnType = ret → meth.locks = false → Z.Warmed39 s.vm →
      Stand p l e rm s m as below meth c s₁ [] 0 0 → s₁.heap = h → Go p e below (Fini s Q rm.cells rm.slots) (s₁.setTop (entryFrame m as maxL))) : Ct l y bytes maxL ret ws rm Z as h Q := by
  refine MetFree.of_bodySF hy hisR ?_
  intro p e s m args below meth c s₁ Bd hml hP hK
  obtain ⟨rfl, hZ, hh⟩ := hP
  exact body p e s m below meth c s₁ Bd.exec Bd.bytes hml (findClass_of_methodNamed Bd.named) (name_of_methodNamed Bd.named Bd.method).1 Bd.returns Bd.notSynchronized hZ (Stand.of_body Bd) (by rw [← hh, Bd.state]; rfl)
theorem start {g g' : JFrame} (q : g = g') (k : Go p e below P (T.setTop g')) : Go p e below P (T.setTop g) := q ▸ k
theorem induct {α : Type} (S : α → State) (I : Nat → α → Prop) (base : ∀ a, I 0 a → Go p e below P (S a)) (step : ∀ k a, I (k + 1) a → (∀ a', I k a' → Go p e below P (S a')) → Go p e below P (S a)) {n : Nat} {a : α} (w : I n a) : Go p e below P (S a) := by
  induction n generalizing a with
  | zero => exact base a w
  | succ k ih => exact step k a w (fun a' w' => ih w')
/-! plain steps -/
theorem aloadN (X : Stand p l e R s m args below meth c T locs cells slots) (hx : p.tables.exec = Jvm.exec) {i : Fin 4} {v : Value} (hd : decode c.code pc = .ok (.aload_n i, 1)) (hl : L[i.val]? = some (.val v)) (hv : v.isRef = true) (k : Go p e below P (T.setTop (mkF m (pc + 1) L (v :: st)))) : Go p e below P (T.setTop (mkF m pc L st)) := Go.via (fun _ q => XS.aloadN X.here hx rfl hd hl hv q) k
theorem aload (X : Stand p l e R s m args below meth c T locs cells slots) (hx : p.tables.exec = Jvm.exec) {i : Nat} {v : Value} (hd : decode c.code pc = .ok (.aload i, 2)) (hl : L[i]? = some (.val v)) (hv : v.isRef = true) (k : Go p e below P (T.setTop (mkF m (pc + 2) L (v :: st)))) : Go p e below P (T.setTop (mkF m pc L st)) := Go.via (fun _ q => XS.aload X.here hx rfl hd hl hv q) k
theorem iloadN (X : Stand p l e R s m args below meth c T locs cells slots) (hx : p.tables.exec = Jvm.exec) {i : Fin 4} {v : Int32} (hd : decode c.code pc = .ok (.iload_n i, 1)) (hl : L[i.val]? = some (.val (.int v))) (k : Go p e below P (T.setTop (mkF m (pc + 1) L (.int v :: st)))) : Go p e below P (T.setTop (mkF m pc L st)) := Go.via (fun _ q => XS.iloadN X.here hx rfl hd hl q) k
theorem iload (X : Stand p l e R s m args below meth c T locs cells slots) (hx : p.tables.exec = Jvm.exec) {i : Nat} {v : Int32} (hd : decode c.code pc = .ok (.iload i, 2)) (hl : L[i]? = some (.val (.int v))) (k : Go p e below P (T.setTop (mkF m (pc + 2) L (.int v :: st)))) : Go p e below P (T.setTop (mkF m pc L st)) := Go.via (fun _ q => XS.iload X.here hx rfl hd hl q) k
theorem lloadN (X : Stand p l e R s m args below meth c T locs cells slots) (hx : p.tables.exec = Jvm.exec) {i : Fin 4} {v : Int64} (hd : decode c.code pc = .ok (.lload_n i, 1)) (hl : L[i.val]? = some (.val (.long v))) (k : Go p e below P (T.setTop (mkF m (pc + 1) L (.long v :: st)))) : Go p e below P (T.setTop (mkF m pc L st)) := Go.via (fun _ q => XT.lloadN X.here hx rfl hd hl q) k
theorem lload (X : Stand p l e R s m args below meth c T locs cells slots) (hx : p.tables.exec = Jvm.exec) {i : Nat} {v : Int64} (hd : decode c.code pc = .ok (.lload i, 2)) (hl : L[i]? = some (.val (.long v))) (k : Go p e below P (T.setTop (mkF m (pc + 2) L (.long v :: st)))) : Go p e below P (T.setTop (mkF m pc L st)) := Go.via (fun _ q => XT.lload X.here hx rfl hd hl q) k
theorem istoreN (X : Stand p l e R s m args below meth c T locs cells slots) (hx : p.tables.exec = Jvm.exec) {i : Fin 4} {v : Int32} (L' : Array Slot) (hd : decode c.code pc = .ok (.istore_n i, 1)) (hl : storeLocals L i.val (.int v) = some L') (k : Go p e below P (T.setTop (mkF m (pc + 1) L' st))) : Go p e below P (T.setTop (mkF m pc L (.int v :: st))) := Go.via (fun _ q => XS.istoreN X.here hx rfl hd rfl hl q) k
theorem istore (X : Stand p l e R s m args below meth c T locs cells slots) (hx : p.tables.exec = Jvm.exec) {i : Nat} {v : Int32} (L' : Array Slot) (hd : decode c.code pc = .ok (.istore i, 2)) (hl : storeLocals L i (.int v) = some L') (k : Go p e below P (T.setTop (mkF m (pc + 2) L' st))) : Go p e below P (T.setTop (mkF m pc L (.int v :: st))) := Go.via (fun _ q => XS.istore X.here hx rfl hd rfl hl q) k
theorem lstoreN (X : Stand p l e R s m args below meth c T locs cells slots) (hx : p.tables.exec = Jvm.exec) {i : Fin 4} {v : Int64} (L' : Array Slot) (hd : decode c.code pc = .ok (.lstore_n i, 1)) (hl : storeLocals L i.val (.long v) = some L') (k : Go p e below P (T.setTop (mkF m (pc + 1) L' st))) : Go p e below P (T.setTop (mkF m pc L (.long v :: st))) := Go.via (fun _ q => XT.lstoreN X.here hx rfl hd rfl hl q) k
theorem lstore (X : Stand p l e R s m args below meth c T locs cells slots) (hx : p.tables.exec = Jvm.exec) {i : Nat} {v : Int64} (L' : Array Slot) (hd : decode c.code pc = .ok (.lstore i, 2)) (hl : storeLocals L i (.long v) = some L') (k : Go p e below P (T.setTop (mkF m (pc + 2) L' st))) : Go p e below P (T.setTop (mkF m pc L (.long v :: st))) := Go.via (fun _ q => XT.lstore X.here hx rfl hd rfl hl q) k
theorem astoreN (X : Stand p l e R s m args below meth c T locs cells slots) (hx : p.tables.exec = Jvm.exec) {i : Fin 4} {v : Value} (L' : Array Slot) (hd : decode c.code pc = .ok (.astore_n i, 1)) (hv : v.isRef = true) (hl : storeLocals L i.val v = some L') (k : Go p e below P (T.setTop (mkF m (pc + 1) L' st))) : Go p e below P (T.setTop (mkF m pc L (v :: st))) := Go.via (fun _ q => XS.astoreN X.here hx rfl hd rfl hv hl q) k
theorem astore (X : Stand p l e R s m args below meth c T locs cells slots) (hx : p.tables.exec = Jvm.exec) {i : Nat} {v : Value} (L' : Array Slot) (hd : decode c.code pc = .ok (.astore i, 2)) (hv : v.isRef = true) (hl : storeLocals L i v = some L') (k : Go p e below P (T.setTop (mkF m (pc + 2) L' st))) : Go p e below P (T.setTop (mkF m pc L (v :: st))) := Go.via (fun _ q => XS.astore X.here hx rfl hd rfl hv hl q) k
theorem iconst (X : Stand p l e R s m args below meth c T locs cells slots) (hx : p.tables.exec = Jvm.exec) {i : Int} (v : Int32) (hd : decode c.code pc = .ok (.iconst i, 1)) (hv : Int32.ofInt i = v) (k : Go p e below P (T.setTop (mkF m (pc + 1) L (.int v :: st)))) : Go p e below P (T.setTop (mkF m pc L st)) := Go.via (fun _ q => XS.iconst X.here hx rfl hd (hv ▸ q)) k
theorem bipush (X : Stand p l e R s m args below meth c T locs cells slots) (hx : p.tables.exec = Jvm.exec) {i : Int} (v : Int32) (hd : decode c.code pc = .ok (.bipush i, 2)) (hv : (Int8.ofInt i).toInt32 = v) (k : Go p e below P (T.setTop (mkF m (pc + 2) L (.int v :: st)))) : Go p e below P (T.setTop (mkF m pc L st)) := Go.via (fun _ q => XS.bipush X.here hx rfl hd (hv ▸ q)) k
theorem sipush (X : Stand p l e R s m args below meth c T locs cells slots) (hx : p.tables.exec = Jvm.exec) {i : Int} (v : Int32) (hd : decode c.code pc = .ok (.sipush i, 3)) (hv : (Int16.ofInt i).toInt32 = v) (k : Go p e below P (T.setTop (mkF m (pc + 3) L (.int v :: st)))) : Go p e below P (T.setTop (mkF m pc L st)) := Go.via (fun _ q => XS.sipush X.here hx rfl hd (hv ▸ q)) k
theorem lconst (X : Stand p l e R s m args below meth c T locs cells slots) (hx : p.tables.exec = Jvm.exec) {i : Fin 2} (v : Int64) (hd : decode c.code pc = .ok (.lconst i, 1)) (hv : Int64.ofNat i = v) (k : Go p e below P (T.setTop (mkF m (pc + 1) L (.long v :: st)))) : Go p e below P (T.setTop (mkF m pc L st)) := Go.via (fun _ q => XT.lconst X.here hx rfl hd (hv ▸ q)) k
theorem aconstNull (X : Stand p l e R s m args below meth c T locs cells slots) (hx : p.tables.exec = Jvm.exec) (hd : decode c.code pc = .ok (.aconst_null, 1)) (k : Go p e below P (T.setTop (mkF m (pc + 1) L (.null :: st)))) : Go p e below P (T.setTop (mkF m pc L st)) := Go.via (fun _ q => XS.aconstNull X.here hx rfl hd q) k
theorem ldcI (X : Stand p l e R s m args below meth c T locs cells slots) (hx : p.tables.exec = Jvm.exec) (hZ : Z.Warmed39 s.vm) {own : String} {i : Nat} {v : Int32} (hown : s.vm.findClass own = some m.cls) (w : (Cond.constant own i v).before a0 Z = true) (hd : decode c.code pc = .ok (.ldc i, 2)) (k : Go p e below P (T.setTop (mkF m (pc + 2) L (.int v :: st)))) : Go p e below P (T.setTop (mkF m pc L st)) := Go.via (fun _ q => X.ldcI hx hown (mvT hZ w) rfl hd q) k
theorem ldcWI (X : Stand p l e R s m args below meth c T locs cells slots) (hx : p.tables.exec = Jvm.exec) (hZ : Z.Warmed39 s.vm) {own : String} {i : Nat} {v : Int32} (hown : s.vm.findClass own = some m.cls) (w : (Cond.constant own i v).before a0 Z = true) (hd : decode c.code pc = .ok (.ldc_w i, 3)) (k : Go p e below P (T.setTop (mkF m (pc + 3) L (.int v :: st)))) : Go p e below P (T.setTop (mkF m pc L st)) := Go.via (fun _ q => X.ldcWI hx hown (mvT hZ w) rfl hd q) k
theorem ldc2J (X : Stand p l e R s m args below meth c T locs cells slots) (hx : p.tables.exec = Jvm.exec) (hZ : Z.Warmed39 s.vm) {own : String} {i : Nat} {v : Int64} (hown : s.vm.findClass own = some m.cls) (w : (Cond.constantLong own i v).before a0 Z = true) (hd : decode c.code pc = .ok (.ldc2_w i, 3)) (k : Go p e below P (T.setTop (mkF m (pc + 3) L (.long v :: st)))) : Go p e below P (T.setTop (mkF m pc L st)) := Go.via (fun _ q => X.ldc2J hx hown (mvT hZ w) rfl hd q) k
theorem iinc (X : Stand p l e R s m args below meth c T locs cells slots) (hx : p.tables.exec = Jvm.exec) {i : Nat} {d : Int} {x : Int32} (v : Int32) (L' : Array Slot) (hd : decode c.code pc = .ok (.iinc i d, 3)) (hv : Int32.ofInt d = v) (hl : L[i]? = some (.val (.int x))) (hl' : storeLocals L i (.int (x + v)) = some L') (k : Go p e below P (T.setTop (mkF m (pc + 3) L' st))) : Go p e below P (T.setTop (mkF m pc L st)) := Go.via (fun _ q => XS.iinc X.here hx rfl hd hl (hv ▸ hl') q) k
theorem goto (X : Stand p l e R s m args below meth c T locs cells slots) (hx : p.tables.exec = Jvm.exec) {o : Int} (pc' : Nat) (hd : decode c.code pc = .ok (.goto o, 3)) (ho : 0 ≤ (pc : Int) + o) (hp : ((pc : Int) + o).toNat = pc') (k : Go p e below P (T.setTop (mkF m pc' L st))) : Go p e below P (T.setTop (mkF m pc L st)) := Go.via (fun _ q => XS.goto X.here hx rfl rfl hd ho hp q) k
theorem ifYes (X : Stand p l e R s m args below meth c T locs cells slots) (hx : p.tables.exec = Jvm.exec) {cd : ClassFile.Cond} {x : Int32} {o : Int} (pc' : Nat) (hd : decode c.code pc = .ok (.ifCond cd o, 3)) (hc : ifCond.holds cd x = true) (ho : 0 ≤ (pc : Int) + o) (hp : ((pc : Int) + o).toNat = pc') (k : Go p e below P (T.setTop (mkF m pc' L st))) : Go p e below P (T.setTop (mkF m pc L (.int x :: st))) := Go.via (fun _ q => XS.ifYes X.here hx rfl rfl hd rfl hc ho hp q) k
theorem ifNo (X : Stand p l e R s m args below meth c T locs cells slots) (hx : p.tables.exec = Jvm.exec) {cd : ClassFile.Cond} {x : Int32} {o : Int} (hd : decode c.code pc = .ok (.ifCond cd o, 3)) (hc : ifCond.holds cd x = false) (k : Go p e below P (T.setTop (mkF m (pc + 3) L st))) : Go p e below P (T.setTop (mkF m pc L (.int x :: st))) := Go.via (fun _ q => XS.ifNo X.here hx rfl hd rfl hc q) k
theorem icmpYes (X : Stand p l e R s m args below meth c T locs cells slots) (hx : p.tables.exec = Jvm.exec) {cd : ClassFile.Cond} {x y : Int32} {o : Int} (pc' : Nat) (hd : decode c.code pc = .ok (.if_icmp cd o, 3)) (hc : if_icmp.holds cd x y = true) (ho : 0 ≤ (pc : Int) + o) (hp : ((pc : Int) + o).toNat = pc') (k : Go p e below P (T.setTop (mkF m pc' L st))) : Go p e below P (T.setTop (mkF m pc L (.int y :: .int x :: st))) := Go.via (fun _ q => XS.icmpYes X.here hx rfl rfl hd rfl hc ho hp q) k
theorem icmpNo (X : Stand p l e R s m args below meth c T locs cells slots) (hx : p.tables.exec = Jvm.exec) {cd : ClassFile.Cond} {x y : Int32} {o : Int} (hd : decode c.code pc = .ok (.if_icmp cd o, 3)) (hc : if_icmp.holds cd x y = false) (k : Go p e below P (T.setTop (mkF m (pc + 3) L st))) : Go p e below P (T.setTop (mkF m pc L (.int y :: .int x :: st))) := Go.via (fun _ q => XS.icmpNo X.here hx rfl hd rfl hc q) k
theorem ifnullYes (X : Stand p l e R s m args below meth c T locs cells slots) (hx : p.tables.exec = Jvm.exec) {o : Int} (pc' : Nat) (hd : decode c.code pc = .ok (.ifnull o, 3)) (ho : 0 ≤ (pc : Int) + o) (hp : ((pc : Int) + o).toNat = pc') (k : Go p e below P (T.setTop (mkF m pc' L st))) : Go p e below P (T.setTop (mkF m pc L (.null :: st))) := Go.via (fun _ q => XS.ifnullYes X.here hx rfl rfl hd rfl ho hp q) k
theorem ifnullNo (X : Stand p l e R s m args below meth c T locs cells slots) (hx : p.tables.exec = Jvm.exec) {o : Int} {b : Addr} (hd : decode c.code pc = .ok (.ifnull o, 3)) (k : Go p e below P (T.setTop (mkF m (pc + 3) L st))) : Go p e below P (T.setTop (mkF m pc L (.ref b :: st))) := Go.via (fun _ q => XS.ifnullNo X.here hx rfl hd rfl q) k
theorem ifnonnullYes (X : Stand p l e R s m args below meth c T locs cells slots) (hx : p.tables.exec = Jvm.exec) {o : Int} {b : Addr} (pc' : Nat) (hd : decode c.code pc = .ok (.ifnonnull o, 3)) (ho : 0 ≤ (pc : Int) + o) (hp : ((pc : Int) + o).toNat = pc') (k : Go p e below P (T.setTop (mkF m pc' L st))) : Go p e below P (T.setTop (mkF m pc L (.ref b :: st))) := Go.via (fun _ q => XT.ifnonnullYes X.here hx rfl rfl hd rfl ho hp q) k
theorem ifnonnullNo (X : Stand p l e R s m args below meth c T locs cells slots) (hx : p.tables.exec = Jvm.exec) {o : Int} (hd : decode c.code pc = .ok (.ifnonnull o, 3)) (k : Go p e below P (T.setTop (mkF m (pc + 3) L st))) : Go p e below P (T.setTop (mkF m pc L (.null :: st))) := Go.via (fun _ q => XT.ifnonnullNo X.here hx rfl hd rfl q) k
theorem dup (X : Stand p l e R s m args below meth c T locs cells slots) (hx : p.tables.exec = Jvm.exec) {v : Value} (hd : decode c.code pc = .ok (.dup, 1)) (hc : v.category = 1) (k : Go p e below P (T.setTop (mkF m (pc + 1) L (v :: v :: st)))) : Go p e below P (T.setTop (mkF m pc L (v :: st))) := Go.via (fun _ q => XS.dup X.here hx rfl hd rfl hc q) k
theorem dup2 (X : Stand p l e R s m args below meth c T locs cells slots) (hx : p.tables.exec = Jvm.exec) {v w : Value} (hd : decode c.code pc = .ok (.dup2, 1)) (hc : v.category = 1) (hc' : w.category = 1) (k : Go p e below P (T.setTop (mkF m (pc + 1) L (v :: w :: v :: w :: st)))) : Go p e below P (T.setTop (mkF m pc L (v :: w :: st))) := Go.via (fun _ q => XT.dup2 X.here hx rfl hd rfl hc hc' q) k
theorem dup2L (X : Stand p l e R s m args below meth c T locs cells slots) (hx : p.tables.exec = Jvm.exec) {v : Int64} (hd : decode c.code pc = .ok (.dup2, 1)) (k : Go p e below P (T.setTop (mkF m (pc + 1) L (.long v :: .long v :: st)))) : Go p e below P (T.setTop (mkF m pc L (.long v :: st))) := Go.via (fun _ q => XT.dup2L X.here hx rfl hd rfl q) k
theorem dupX1 (X : Stand p l e R s m args below meth c T locs cells slots) (hx : p.tables.exec = Jvm.exec) {v w : Value} (hd : decode c.code pc = .ok (.dup_x1, 1)) (hc : v.category = 1) (hc' : w.category = 1) (k : Go p e below P (T.setTop (mkF m (pc + 1) L (v :: w :: v :: st)))) : Go p e below P (T.setTop (mkF m pc L (v :: w :: st))) := Go.via (fun _ q => XT.dupX1 X.here hx rfl hd rfl hc hc' q) k
theorem pop (X : Stand p l e R s m args below meth c T locs cells slots) (hx : p.tables.exec = Jvm.exec) {v : Value} (hd : decode c.code pc = .ok (.pop, 1)) (hc : v.category = 1) (k : Go p e below P (T.setTop (mkF m (pc + 1) L st))) : Go p e below P (T.setTop (mkF m pc L (v :: st))) := Go.via (fun _ q => XT.pop X.here hx rfl hd rfl hc q) k
theorem xdupX2 {e : Env} {below : List Frame} {T target : State} {m : MethodId} {c : Code} {g : JFrame} (h : At T m c below) (hx : p.tables.exec = Jvm.exec) (hg : g.method = m) {x y z : Value} {rest : List Value} (hd : decode c.code g.pc = .ok (.dup_x2, 1)) (hs : g.stack = x :: y :: z :: rest) (hc : x.category = 1) (hc' : y.category = 1) (hc2 : z.category = 1)
    (hr : Steps p.tables e below (T.setTop { g with pc := g.pc + 1, stack := x :: y :: z :: x :: rest }) target) : Steps p.tables e below (T.setTop g) target := by
  subst hg
  jvm_step h [h.top, hx, hd, hs, hc, hc', hc2]
  exact hr
theorem dupX2 (X : Stand p l e R s m args below meth c T locs cells slots) (hx : p.tables.exec = Jvm.exec) {v w u : Value} (hd : decode c.code pc = .ok (.dup_x2, 1)) (hc : v.category = 1) (hc' : w.category = 1) (hc2 : u.category = 1) (k : Go p e below P (T.setTop (mkF m (pc + 1) L (v :: w :: u :: v :: st)))) : Go p e below P (T.setTop (mkF m pc L (v :: w :: u :: st))) := Go.via (fun _ q => xdupX2 X.here hx rfl hd rfl hc hc' hc2 q) k
theorem xdup2X2 {e : Env} {below : List Frame} {T target : State} {m : MethodId} {c : Code} {g : JFrame} (h : At T m c below) (hx : p.tables.exec = Jvm.exec) (hg : g.method = m) {x : Int64} {y z : Value} {rest : List Value} (hd : decode c.code g.pc = .ok (.dup2_x2, 1)) (hs : g.stack = .long x :: y :: z :: rest) (hc' : y.category = 1) (hc2 : z.category = 1)
    (hr : Steps p.tables e below (T.setTop { g with pc := g.pc + 1, stack := .long x :: y :: z :: .long x :: rest }) target) : Steps p.tables e below (T.setTop g) target := by
  subst hg
  jvm_step h [h.top, hx, hd, hs, hc', hc2]
  exact hr
theorem dup2X2 (X : Stand p l e R s m args below meth c T locs cells slots) (hx : p.tables.exec = Jvm.exec) {v : Int64} {w u : Value} (hd : decode c.code pc = .ok (.dup2_x2, 1)) (hc' : w.category = 1) (hc2 : u.category = 1) (k : Go p e below P (T.setTop (mkF m (pc + 1) L (.long v :: w :: u :: .long v :: st)))) : Go p e below P (T.setTop (mkF m pc L (.long v :: w :: u :: st))) := Go.via (fun _ q => xdup2X2 X.here hx rfl hd rfl hc' hc2 q) k
theorem iadd (X : Stand p l e R s m args below meth c T locs cells slots) (hx : p.tables.exec = Jvm.exec) {x y : Int32} (hd : decode c.code pc = .ok (.iadd, 1)) (k : Go p e below P (T.setTop (mkF m (pc + 1) L (.int (x + y) :: st)))) : Go p e below P (T.setTop (mkF m pc L (.int y :: .int x :: st))) := Go.via (fun _ q => XS.iadd X.here hx rfl hd rfl q) k
theorem isub (X : Stand p l e R s m args below meth c T locs cells slots) (hx : p.tables.exec = Jvm.exec) {x y : Int32} (hd : decode c.code pc = .ok (.isub, 1)) (k : Go p e below P (T.setTop (mkF m (pc + 1) L (.int (x - y) :: st)))) : Go p e below P (T.setTop (mkF m pc L (.int y :: .int x :: st))) := Go.via (fun _ q => XS.isub X.here hx rfl hd rfl q) k
theorem imul (X : Stand p l e R s m args below meth c T locs cells slots) (hx : p.tables.exec = Jvm.exec) {x y : Int32} (hd : decode c.code pc = .ok (.imul, 1)) (k : Go p e below P (T.setTop (mkF m (pc + 1) L (.int (x * y) :: st)))) : Go p e below P (T.setTop (mkF m pc L (.int y :: .int x :: st))) := Go.via (fun _ q => XS.imul X.here hx rfl hd rfl q) k
theorem iand (X : Stand p l e R s m args below meth c T locs cells slots) (hx : p.tables.exec = Jvm.exec) {x y : Int32} (hd : decode c.code pc = .ok (.iand, 1)) (k : Go p e below P (T.setTop (mkF m (pc + 1) L (.int (x &&& y) :: st)))) : Go p e below P (T.setTop (mkF m pc L (.int y :: .int x :: st))) := Go.via (fun _ q => XS.iand X.here hx rfl hd rfl q) k
theorem ior (X : Stand p l e R s m args below meth c T locs cells slots) (hx : p.tables.exec = Jvm.exec) {x y : Int32} (hd : decode c.code pc = .ok (.ior, 1)) (k : Go p e below P (T.setTop (mkF m (pc + 1) L (.int (x ||| y) :: st)))) : Go p e below P (T.setTop (mkF m pc L (.int y :: .int x :: st))) := Go.via (fun _ q => XT.ior X.here hx rfl hd rfl q) k
theorem ixor (X : Stand p l e R s m args below meth c T locs cells slots) (hx : p.tables.exec = Jvm.exec) {x y : Int32} (hd : decode c.code pc = .ok (.ixor, 1)) (k : Go p e below P (T.setTop (mkF m (pc + 1) L (.int (x ^^^ y) :: st)))) : Go p e below P (T.setTop (mkF m pc L (.int y :: .int x :: st))) := Go.via (fun _ q => XT.ixor X.here hx rfl hd rfl q) k
theorem ishl (X : Stand p l e R s m args below meth c T locs cells slots) (hx : p.tables.exec = Jvm.exec) {x y : Int32} (hd : decode c.code pc = .ok (.ishl, 1)) (k : Go p e below P (T.setTop (mkF m (pc + 1) L (.int (x <<< (y &&& 31)) :: st)))) : Go p e below P (T.setTop (mkF m pc L (.int y :: .int x :: st))) := Go.via (fun _ q => XT.ishl X.here hx rfl hd rfl q) k
theorem ishr (X : Stand p l e R s m args below meth c T locs cells slots) (hx : p.tables.exec = Jvm.exec) {x y : Int32} (hd : decode c.code pc = .ok (.ishr, 1)) (k : Go p e below P (T.setTop (mkF m (pc + 1) L (.int (x >>> (y &&& 31)) :: st)))) : Go p e below P (T.setTop (mkF m pc L (.int y :: .int x :: st))) := Go.via (fun _ q => XT.ishr X.here hx rfl hd rfl q) k
theorem iushr (X : Stand p l e R s m args below meth c T locs cells slots) (hx : p.tables.exec = Jvm.exec) {x y : Int32} (hd : decode c.code pc = .ok (.iushr, 1)) (k : Go p e below P (T.setTop (mkF m (pc + 1) L (.int (XT.ushr x y) :: st)))) : Go p e below P (T.setTop (mkF m pc L (.int y :: .int x :: st))) := Go.via (fun _ q => XT.iushr X.here hx rfl hd rfl q) k
theorem idiv (X : Stand p l e R s m args below meth c T locs cells slots) (hx : p.tables.exec = Jvm.exec) {x y : Int32} (hd : decode c.code pc = .ok (.idiv, 1)) (hy : y ≠ 0) (k : Go p e below P (T.setTop (mkF m (pc + 1) L (.int (x / y) :: st)))) : Go p e below P (T.setTop (mkF m pc L (.int y :: .int x :: st))) := Go.via (fun _ q => XS.idiv X.here hx rfl hd rfl hy q) k
theorem irem (X : Stand p l e R s m args below meth c T locs cells slots) (hx : p.tables.exec = Jvm.exec) {x y : Int32} (hd : decode c.code pc = .ok (.irem, 1)) (hy : y ≠ 0) (k : Go p e below P (T.setTop (mkF m (pc + 1) L (.int (x % y) :: st)))) : Go p e below P (T.setTop (mkF m pc L (.int y :: .int x :: st))) := Go.via (fun _ q => iremM X hx (g := mkF m pc L (.int y :: .int x :: st)) rfl hd rfl hy q) k
theorem ladd (X : Stand p l e R s m args below meth c T locs cells slots) (hx : p.tables.exec = Jvm.exec) {x y : Int64} (hd : decode c.code pc = .ok (.ladd, 1)) (k : Go p e below P (T.setTop (mkF m (pc + 1) L (.long (x + y) :: st)))) : Go p e below P (T.setTop (mkF m pc L (.long y :: .long x :: st))) := Go.via (fun _ q => XT.ladd X.here hx rfl hd rfl q) k
theorem lsub (X : Stand p l e R s m args below meth c T locs cells slots) (hx : p.tables.exec = Jvm.exec) {x y : Int64} (hd : decode c.code pc = .ok (.lsub, 1)) (k : Go p e below P (T.setTop (mkF m (pc + 1) L (.long (x - y) :: st)))) : Go p e below P (T.setTop (mkF m pc L (.long y :: .long x :: st))) := Go.via (fun _ q => XT.lsub X.here hx rfl hd rfl q) k
theorem lmul (X : Stand p l e R s m args below meth c T locs cells slots) (hx : p.tables.exec = Jvm.exec) {x y : Int64} (hd : decode c.code pc = .ok (.lmul, 1)) (k : Go p e below P (T.setTop (mkF m (pc + 1) L (.long (x * y) :: st)))) : Go p e below P (T.setTop (mkF m pc L (.long y :: .long x :: st))) := Go.via (fun _ q => XT.lmul X.here hx rfl hd rfl q) k
theorem land (X : Stand p l e R s m args below meth c T locs cells slots) (hx : p.tables.exec = Jvm.exec) {x y : Int64} (hd : decode c.code pc = .ok (.land, 1)) (k : Go p e below P (T.setTop (mkF m (pc + 1) L (.long (x &&& y) :: st)))) : Go p e below P (T.setTop (mkF m pc L (.long y :: .long x :: st))) := Go.via (fun _ q => XT.land X.here hx rfl hd rfl q) k
theorem lor (X : Stand p l e R s m args below meth c T locs cells slots) (hx : p.tables.exec = Jvm.exec) {x y : Int64} (hd : decode c.code pc = .ok (.lor, 1)) (k : Go p e below P (T.setTop (mkF m (pc + 1) L (.long (x ||| y) :: st)))) : Go p e below P (T.setTop (mkF m pc L (.long y :: .long x :: st))) := Go.via (fun _ q => XT.lor X.here hx rfl hd rfl q) k
theorem lxor (X : Stand p l e R s m args below meth c T locs cells slots) (hx : p.tables.exec = Jvm.exec) {x y : Int64} (hd : decode c.code pc = .ok (.lxor, 1)) (k : Go p e below P (T.setTop (mkF m (pc + 1) L (.long (x ^^^ y) :: st)))) : Go p e below P (T.setTop (mkF m pc L (.long y :: .long x :: st))) := Go.via (fun _ q => XT.lxor X.here hx rfl hd rfl q) k
theorem lshl (X : Stand p l e R s m args below meth c T locs cells slots) (hx : p.tables.exec = Jvm.exec) {x : Int64} {y : Int32} (hd : decode c.code pc = .ok (.lshl, 1)) (k : Go p e below P (T.setTop (mkF m (pc + 1) L (.long (x <<< (y.toInt64 &&& 63)) :: st)))) : Go p e below P (T.setTop (mkF m pc L (.int y :: .long x :: st))) := Go.via (fun _ q => XT.lshl X.here hx rfl hd rfl q) k
theorem lshr (X : Stand p l e R s m args below meth c T locs cells slots) (hx : p.tables.exec = Jvm.exec) {x : Int64} {y : Int32} (hd : decode c.code pc = .ok (.lshr, 1)) (k : Go p e below P (T.setTop (mkF m (pc + 1) L (.long (x >>> (y.toInt64 &&& 63)) :: st)))) : Go p e below P (T.setTop (mkF m pc L (.int y :: .long x :: st))) := Go.via (fun _ q => XT.lshr X.here hx rfl hd rfl q) k
theorem lushr (X : Stand p l e R s m args below meth c T locs cells slots) (hx : p.tables.exec = Jvm.exec) {x : Int64} {y : Int32} (hd : decode c.code pc = .ok (.lushr, 1)) (k : Go p e below P (T.setTop (mkF m (pc + 1) L (.long (XT.ushrL x y) :: st)))) : Go p e below P (T.setTop (mkF m pc L (.int y :: .long x :: st))) := Go.via (fun _ q => XT.lushr X.here hx rfl hd rfl q) k
theorem ldiv (X : Stand p l e R s m args below meth c T locs cells slots) (hx : p.tables.exec = Jvm.exec) {x y : Int64} (hd : decode c.code pc = .ok (.ldiv, 1)) (hy : y ≠ 0) (k : Go p e below P (T.setTop (mkF m (pc + 1) L (.long (x / y) :: st)))) : Go p e below P (T.setTop (mkF m pc L (.long y :: .long x :: st))) := Go.via (fun _ q => XT.ldiv X.here hx rfl hd rfl hy q) k
theorem lrem (X : Stand p l e R s m args below meth c T locs cells slots) (hx : p.tables.exec = Jvm.exec) {x y : Int64} (hd : decode c.code pc = .ok (.lrem, 1)) (hy : y ≠ 0) (k : Go p e below P (T.setTop (mkF m (pc + 1) L (.long (x % y) :: st)))) : Go p e below P (T.setTop (mkF m pc L (.long y :: .long x :: st))) := Go.via (fun _ q => XT.lrem X.here hx rfl hd rfl hy (by rw [lrem_mod]; exact q)) k
theorem ineg (X : Stand p l e R s m args below meth c T locs cells slots) (hx : p.tables.exec = Jvm.exec) {x : Int32} (hd : decode c.code pc = .ok (.ineg, 1)) (k : Go p e below P (T.setTop (mkF m (pc + 1) L (.int ((-x)) :: st)))) : Go p e below P (T.setTop (mkF m pc L (.int x :: st))) := Go.via (fun _ q => XS.ineg X.here hx rfl hd rfl q) k
theorem lneg (X : Stand p l e R s m args below meth c T locs cells slots) (hx : p.tables.exec = Jvm.exec) {x : Int64} (hd : decode c.code pc = .ok (.lneg, 1)) (k : Go p e below P (T.setTop (mkF m (pc + 1) L (.long ((-x)) :: st)))) : Go p e below P (T.setTop (mkF m pc L (.long x :: st))) := Go.via (fun _ q => XT.lneg X.here hx rfl hd rfl q) k
theorem i2l (X : Stand p l e R s m args below meth c T locs cells slots) (hx : p.tables.exec = Jvm.exec) {x : Int32} (hd : decode c.code pc = .ok (.i2l, 1)) (k : Go p e below P (T.setTop (mkF m (pc + 1) L (.long (x.toInt64) :: st)))) : Go p e below P (T.setTop (mkF m pc L (.int x :: st))) := Go.via (fun _ q => XT.i2l X.here hx rfl hd rfl q) k
theorem l2i (X : Stand p l e R s m args below meth c T locs cells slots) (hx : p.tables.exec = Jvm.exec) {x : Int64} (hd : decode c.code pc = .ok (.l2i, 1)) (k : Go p e below P (T.setTop (mkF m (pc + 1) L (.int (x.toInt32) :: st)))) : Go p e below P (T.setTop (mkF m pc L (.long x :: st))) := Go.via (fun _ q => XT.l2i X.here hx rfl hd rfl q) k
theorem i2b (X : Stand p l e R s m args below meth c T locs cells slots) (hx : p.tables.exec = Jvm.exec) {x : Int32} (hd : decode c.code pc = .ok (.i2b, 1)) (k : Go p e below P (T.setTop (mkF m (pc + 1) L (.int (x.toInt8.toInt32) :: st)))) : Go p e below P (T.setTop (mkF m pc L (.int x :: st))) := Go.via (fun _ q => XT.i2b X.here hx rfl hd rfl q) k
theorem i2c (X : Stand p l e R s m args below meth c T locs cells slots) (hx : p.tables.exec = Jvm.exec) {x : Int32} (hd : decode c.code pc = .ok (.i2c, 1)) (k : Go p e below P (T.setTop (mkF m (pc + 1) L (.int (x.toUInt32.toUInt16.toUInt32.toInt32) :: st)))) : Go p e below P (T.setTop (mkF m pc L (.int x :: st))) := Go.via (fun _ q => XT.i2c X.here hx rfl hd rfl q) k
theorem i2s (X : Stand p l e R s m args below meth c T locs cells slots) (hx : p.tables.exec = Jvm.exec) {x : Int32} (hd : decode c.code pc = .ok (.i2s, 1)) (k : Go p e below P (T.setTop (mkF m (pc + 1) L (.int (x.toInt16.toInt32) :: st)))) : Go p e below P (T.setTop (mkF m pc L (.int x :: st))) := Go.via (fun _ q => XT.i2s X.here hx rfl hd rfl q) k
theorem lcmp (X : Stand p l e R s m args below meth c T locs cells slots) (hx : p.tables.exec = Jvm.exec) {x y : Int64} (hd : decode c.code pc = .ok (.lcmp, 1)) (k : Go p e below P (T.setTop (mkF m (pc + 1) L (.int (XT.cmpL x y) :: st)))) : Go p e below P (T.setTop (mkF m pc L (.long y :: .long x :: st))) := Go.via (fun _ q => XT.lcmp X.here hx rfl hd rfl q) k
theorem iincV (X : Stand p l e R s m args below meth c T locs cells slots) (hx : p.tables.exec = Jvm.exec) {i : Nat} {d : Int} {x : Int32} (v w : Int32) (L' : Array Slot) (hd : decode c.code pc = .ok (.iinc i d, 3)) (hv : Int32.ofInt d = v) (hl : L[i]? = some (.val (.int x))) (hw : x + v = w) (hl' : storeLocals L i (.int w) = some L') (k : Go p e below P (T.setTop (mkF m (pc + 3) L' st))) : Go p e below P (T.setTop (mkF m pc L st)) := Go.via (fun _ q => XS.iinc X.here hx rfl hd hl (hv ▸ hw ▸ hl') q) k
theorem topI {x y : Int32} (q : x = y) (k : Go p e below P (T.setTop (mkF m pc L (.int y :: st)))) : Go p e below P (T.setTop (mkF m pc L (.int x :: st))) := q ▸ k
theorem topJ {x y : Int64} (q : x = y) (k : Go p e below P (T.setTop (mkF m pc L (.long y :: st)))) : Go p e below P (T.setTop (mkF m pc L (.long x :: st))) := q ▸ k
/-! returns -/
theorem leaveR (X : Stand p l e R s m args below meth c T locs cells slots) (hk : meth.locks = false) {Q : Option Value → Heap → List Loc → Prop} {k n : Nat} {g : JFrame} {v : Option Value} (hv : meth.sig.returnType = none → v = none) (eT : T.heap = h) (hQ : Q v h locs) (hc : cells ≤ k) (hn : slots ≤ n)
    (st : ∀ fs, (∀ (f : JFrame) (acts : List Action), f.method = m → f.locked = none → f.entered = [] → (doReturn e (T.setTop f) acts v).1 = T.setFrames fs) → Steps p.tables e below (T.setTop g) (T.setFrames fs)) : Go p e below (Fini s Q k n) (T.setTop g) := by
  obtain ⟨fs, hr, hrun, hended, hW, hsame⟩ := X.leave (v := v) hv hk
  exact ⟨_, _, st fs hr, hrun, hended, _, _, rfl, by show Q v T.heap locs; rw [eT]; exact hQ, ⟨_, rfl⟩, hW, hsame.mono hc hn⟩
theorem ireturn (X : Stand p l e R s m args below meth c T locs cells slots) (hx : p.tables.exec = Jvm.exec) (hk : meth.locks = false) {Q : Option Value → Heap → List Loc → Prop} {k n : Nat} {t : FieldType} {z : Int32} (hret : meth.sig.returnType = some t) (ht : t = .int ∨ t = .boolean ∨ t = .byte ∨ t = .char ∨ t = .short) (hnr : narrow t (.int z) = .int z) (hd : decode c.code pc = .ok (.ireturn, 1)) (eT : T.heap = h) (hQ : Q (some (.int z)) h locs) (hc : cells ≤ k) (hn : slots ≤ n) : Go p e below (Fini s Q k n) (T.setTop (mkF m pc L (.int z :: rest))) :=
  leaveR X hk (v := some (.int z)) (fun q => by rw [hret] at q; cases q) eT hQ hc hn fun fs hr => retOut X hx hret hnr (Or.inl ⟨rfl, ht, z, rfl⟩) hd hr
theorem lreturn (X : Stand p l e R s m args below meth c T locs cells slots) (hx : p.tables.exec = Jvm.exec) (hk : meth.locks = false) {Q : Option Value → Heap → List Loc → Prop} {k n : Nat} {z : Int64} (hret : meth.sig.returnType = some .long) (hd : decode c.code pc = .ok (.lreturn, 1)) (eT : T.heap = h) (hQ : Q (some (.long z)) h locs) (hc : cells ≤ k) (hn : slots ≤ n) : Go p e below (Fini s Q k n) (T.setTop (mkF m pc L (.long z :: rest))) :=
  leaveR X hk (v := some (.long z)) (fun q => by rw [hret] at q; cases q) eT hQ hc hn fun fs hr => retOut X hx hret rfl (Or.inr (Or.inl ⟨rfl, rfl, z, rfl⟩)) hd hr
theorem areturn (X : Stand p l e R s m args below meth c T locs cells slots) (hx : p.tables.exec = Jvm.exec) (hk : meth.locks = false) {Q : Option Value → Heap → List Loc → Prop} {k n : Nat} {t : FieldType} {z : Value} (hret : meth.sig.returnType = some t) (ht : t.isReference = true) (hz : z.isRef = true) (hnr : narrow t z = z) (hd : decode c.code pc = .ok (.areturn, 1)) (eT : T.heap = h) (hQ : Q (some z) h locs) (hc : cells ≤ k) (hn : slots ≤ n) : Go p e below (Fini s Q k n) (T.setTop (mkF m pc L (z :: rest))) :=
  leaveR X hk (v := some z) (fun q => by rw [hret] at q; cases q) eT hQ hc hn fun fs hr => retOut X hx hret hnr (Or.inr (Or.inr (Or.inr (Or.inr ⟨rfl, ht, hz⟩)))) hd hr
theorem vreturn (X : Stand p l e R s m args below meth c T locs cells slots) (hx : p.tables.exec = Jvm.exec) (hk : meth.locks = false) {Q : Option Value → Heap → List Loc → Prop} {k n : Nat} (hret : meth.sig.returnType = none) (hd : decode c.code pc = .ok (.return_, 1)) (eT : T.heap = h) (hQ : Q none h locs) (hc : cells ≤ k) (hn : slots ≤ n) : Go p e below (Fini s Q k n) (T.setTop (mkF m pc L [])) :=
  leaveR X hk (v := none) (fun _ => rfl) eT hQ hc hn fun fs hr => X.returnOut hx hret hd hr
/-! String constants: the start with the tables at hand -/
def FiniW (s : State) (Q : Option Value → Heap → List Loc → Prop) (k n : Nat) (o : Outcome) (U : State) : Prop :=
  ∃ v L, o = .returned v ∧ Q v U.heap L ∧ ReturnedEndW s o U L k n
def CtW (l : Launch) (y : MethodName) (bytes : ByteArray) (maxL : Nat) (ret : Option FieldType) (ws : List Jvm.Cond) (rm : Room) (Z : State) (as : Array Value) (h : Heap) (Q : Option Value → Heap → List Loc → Prop) : Prop :=
  MetFree l y (head1 (Jvm.Cond.code y bytes maxL ret :: ws) rm) (fun a U => a = as ∧ Z.Warmed39 U.vm ∧ U.heap = h) (fun _ _ _ _ _ => True) (fun _ U o U' => ∃ v L, o = .returned v ∧ Q v U'.heap L ∧ ReturnedEndW U o U' L rm.cells rm.slots)
theorem enterW {y : MethodName} {bytes : ByteArray} {maxL : Nat} {ret : Option FieldType} {ws : List Jvm.Cond} {rm : Room} {as : Array Value} {Q : Option Value → Heap → List Loc → Prop} (hy : plainFor y = true)
    (body : ∀ p e s m below meth c s₁, p.tables.exec = Jvm.exec → c.code = bytes → c.maxLocals = maxL → s.vm.findClass y.cls = some m.cls → meth.name = y.name → meth.sig.returnType = ret → meth.locks = false → Z.Warmed39 s.vm →
      Stand p l e rm s m as below meth c s₁ [] 0 0 → s₁.heap = h → Go p e below (FiniW s Q rm.cells rm.slots) (s₁.setTop (entryFrame m as maxL))) : CtW l y bytes maxL ret ws rm Z as h Q := by
  refine MetFree.of_bodySF hy hisR ?_
  intro p e s m args below meth c s₁ Bd hml hP hK
  obtain ⟨rfl, hZ, hh⟩ := hP
  exact body p e s m below meth c s₁ Bd.exec Bd.bytes hml (findClass_of_methodNamed Bd.named) (name_of_methodNamed Bd.named Bd.method).1 Bd.returns Bd.notSynchronized hZ (Stand.of_body Bd) (by rw [← hh, Bd.state]; rfl)
theorem since0 (s : State) : s.Since s.vm 0 := State.WarmedH.since (State.WarmedH.refl s) 0
theorem ldcStr {vm0 : Vm} (X : Stand p l e R (s.setVm vm0) m args below meth c T locs cells slots) (hx : p.tables.exec = Jvm.exec) (hZ : Z.Warmed39 vm0) {own text : String} {i : Nat} (hown : vm0.findClass own = some m.cls) (w : (Cond.stringLink own i text).before a0 Z = true) (wS : ∀ a ∈ Bundle.stringAtoms, a.before a0 Z = true)
    (eT : T.heap = h) {k0 : Nat} (hS : s.Since vm0 k0) (hk : k0 ≤ h.size) (hd : decode c.code pc = .ok (.ldc i, 2)) (n : Nat) (hn : 4 * text.toList.length ≤ n) (hbig : n ≤ 536870912) (hc : cells + 2 ≤ R.cells) (hl : slots + (n + 4) ≤ R.slots)
    (k : ∀ (a : Addr) (T' : State) (h' : Heap) (k1 : Nat), Stand p l e R (s.setVm T'.vm) m args below meth c T' locs (cells + 2) (slots + (n + 4)) → T'.heap = h' → Ext h h' → s.Since T'.vm k1 → k1 ≤ h'.size → Z.Warmed39 (s.setVm T'.vm).vm → (s.setVm T'.vm).vm.findClass own = some m.cls → Go p e below P (T'.setTop (mkF m (pc + 2) L (.ref a :: st)))) : Go p e below P (T.setTop (mkF m pc L st)) := by
  obtain ⟨a, T', h', k1, X', e', E, hS', hk', hZ', hown', q⟩ := ldcS X hx hZ hown w wS eT hS hk (g := mkF m pc L st) rfl hd hn hbig hc hl
  exact Go.via q (k a T' h' k1 X' e' E hS' hk' hZ' hown')
theorem ireturnW {vm0 : Vm} (X : Stand p l e R (s.setVm vm0) m args below meth c T locs cells slots) (hx : p.tables.exec = Jvm.exec) (hk : meth.locks = false) {Q : Option Value → Heap → List Loc → Prop} {k n : Nat} {t : FieldType} {z : Int32} (hret : meth.sig.returnType = some t) (ht : t = .int ∨ t = .boolean ∨ t = .byte ∨ t = .char ∨ t = .short) (hnr : narrow t (.int z) = .int z) (hd : decode c.code pc = .ok (.ireturn, 1)) (eT : T.heap = h) {k0 : Nat} (hS : s.Since vm0 k0) (hk0 : k0 ≤ h.size) (hQ : Q (some (.int z)) h locs) (hc : cells ≤ k) (hn : slots ≤ n) : Go p e below (FiniW s Q k n) (T.setTop (mkF m pc L (.int z :: rest))) := by
  obtain ⟨fs, hr, hrun, hended, hW⟩ := X.leaveW hS (by rw [eT]; exact hk0) (v := some (.int z)) (fun q => by rw [hret] at q; cases q) hk
  exact ⟨_, _, retOut X hx hret hnr (Or.inl ⟨rfl, ht, z, rfl⟩) hd hr, hrun, hended, _, _, rfl, by show Q (some (.int z)) T.heap locs; rw [eT]; exact hQ, hW.1, hW.2.1, hW.2.2.1, hW.2.2.2.mono hc hn⟩
/-! fields, objects -/
theorem getfield (X : Stand p l e R s m args below meth c T locs cells slots) (hx : p.tables.exec = Jvm.exec) (hZ : Z.Warmed39 s.vm) {own R0 O n d host : String} {i : Nat} (hown : s.vm.findClass own = some m.cls) (w : (Cond.fieldLink own i R0 n d).before a0 Z = true ∨ (Cond.fieldLinkNest own i R0 n d host).before a0 Z = true) (via : Via Z R0 O n d)
    (eT : T.heap = h) {a : Addr} {v : Value} (F : Fld Z h a O n d v) (hd : decode c.code pc = .ok (.getfield i, 3)) (k : ∀ T', Stand p l e R s m args below meth c T' locs cells slots → T'.heap = h → Go p e below P (T'.setTop (mkF m (pc + 3) L (v :: st)))) : Go p e below P (T.setTop (mkF m pc L (.ref a :: st))) := by
  obtain ⟨T', X', e', q⟩ := getF X hx hZ hown w via eT F (g := mkF m pc L (.ref a :: st)) rfl rfl hd
  exact Go.via q (k T' X' e')
theorem putfield (X : Stand p l e R s m args below meth c T locs cells slots) (hx : p.tables.exec = Jvm.exec) (hZ : Z.Warmed39 s.vm) {own R0 O n d host C : String} {i kk : Nat} {ty : FieldType} (hown : s.vm.findClass own = some m.cls) (w : (Cond.fieldLink own i R0 n d).before a0 Z = true ∨ (Cond.fieldLinkNest own i R0 n d host).before a0 Z = true) (via : Via Z R0 O n d)
    (eT : T.heap = h) {a : Addr} {v old : Value} (F : Fld Z h a O n d old) (E : Exa Z h a C) (Ly : (Cond.lays C O n d).before a0 Z = true ∨ ((Cond.laysFinal C O n d).before a0 Z = true ∧ own = O ∧ meth.name = "<init>")) (wi : (Cond.instantiable C kk).before a0 Z = true)
    (hty : parseFieldDescriptor d = some ty) (hn : narrow ty v = v) (hf : fits ty v = true) {n0 : Nat} (N : Fr n0 locs) (ga : n0 ≤ a) (hd : decode c.code pc = .ok (.putfield i, 3))
    (k : ∀ T' h', Stand p l e R s m args below meth c T' (locs ++ [⟨a, Jvm.RoadKit.slotOf Z O n d⟩]) cells slots → T'.heap = h' → Wr h h' a (Jvm.RoadKit.slotOf Z O n d) v → Fr n0 (locs ++ [⟨a, Jvm.RoadKit.slotOf Z O n d⟩]) → Fld Z h' a O n d v → Go p e below P (T'.setTop (mkF m (pc + 3) L st))) : Go p e below P (T.setTop (mkF m pc L (v :: .ref a :: st))) := by
  obtain ⟨T', h', X', e', W, q⟩ := putF X hx hZ hown w via eT F E Ly wi hty hn hf (g := mkF m pc L (v :: .ref a :: st)) rfl rfl hd
  exact Go.via q (k T' h' X' e' W (Fr.snoc X' N ga) (F.same W))
theorem putfieldN (X : Stand p l e R s m args below meth c T locs cells slots) (hx : p.tables.exec = Jvm.exec) (hZ : Z.Warmed39 s.vm) {own R0 O n d C : String} {i kk : Nat} {ty : FieldType} (hown : s.vm.findClass own = some m.cls) (w : (Cond.fieldLink own i R0 n d).before a0 Z = true) (via : Via Z R0 O n d)
    (eT : T.heap = h) {a : Addr} {v v' old : Value} (F : Fld Z h a O n d old) (E : Exa Z h a C) (Ly : (Cond.lays C O n d).before a0 Z = true ∨ ((Cond.laysFinal C O n d).before a0 Z = true ∧ own = O ∧ meth.name = "<init>")) (wi : (Cond.instantiable C kk).before a0 Z = true)
    (hty : parseFieldDescriptor d = some ty) (hn : narrow ty v = v') (hf : fits ty v' = true) {n0 : Nat} (N : Fr n0 locs) (ga : n0 ≤ a) (hd : decode c.code pc = .ok (.putfield i, 3))
    (k : ∀ T' h', Stand p l e R s m args below meth c T' (locs ++ [⟨a, Jvm.RoadKit.slotOf Z O n d⟩]) cells slots → T'.heap = h' → Wr h h' a (Jvm.RoadKit.slotOf Z O n d) v' → Fr n0 (locs ++ [⟨a, Jvm.RoadKit.slotOf Z O n d⟩]) → Fld Z h' a O n d v' → Go p e below P (T'.setTop (mkF m (pc + 3) L st))) : Go p e below P (T.setTop (mkF m pc L (v :: .ref a :: st))) := by
  obtain ⟨T', h', X', e', W, q⟩ := putFN X hx hZ hown w via eT F E Ly wi hty hn hf (g := mkF m pc L (v :: .ref a :: st)) rfl rfl hd
  exact Go.via q (k T' h' X' e' W (Fr.snoc X' N ga) (F.same W))
theorem newobj (X : Stand p l e R s m args below meth c T locs cells slots) (hx : p.tables.exec = Jvm.exec) (hZ : Z.Warmed39 s.vm) {own C : String} {i n : Nat} (hown : s.vm.findClass own = some m.cls) (w : (Cond.classLink own i C).before a0 Z = true) (wi : (Cond.instantiable C n).before a0 Z = true) (wz : (Cond.initialized C).before a0 Z = true) (eT : T.heap = h)
    (hd : decode c.code pc = .ok (.new i, 3)) (hc : cells + 1 ≤ R.cells) (hl : slots + n ≤ R.slots)
    (k : ∀ T' h' b, b = h.size → Stand p l e R s m args below meth c T' locs (cells + 1) (slots + n) → T'.heap = h' → Ext h h' → Exa Z h' b C → (∀ {O nm d : String} {ty : FieldType}, Laid Z a0 C O nm d → parseFieldDescriptor d = some ty → Fld Z h' b O nm d (defaultValue ty)) → Go p e below P (T'.setTop (mkF m (pc + 3) L (.ref b :: st)))) : Go p e below P (T.setTop (mkF m pc L st)) := by
  obtain ⟨T', h', X', e', E, A, D, -, q⟩ := newO X hx hZ hown w wi wz eT (g := mkF m pc L st) rfl hd hc hl
  exact Go.via q (k T' h' h.size rfl X' e' E A D)
theorem initObj (X : Stand p l e R s m args below meth c T locs cells slots) (hx : p.tables.exec = Jvm.exec) (hZ : Z.Warmed39 s.vm) {own : String} {i : Nat} (hown : s.vm.findClass own = some m.cls) (w1 : (Cond.methodLink own i Lib.objectInit).before a0 Z = true) (w2 : (Cond.instanceMethod Lib.objectInit).before a0 Z = true)
    (w3 : (Cond.code Lib.objectInit ⟨#[0xb1]⟩ 1 none).before a0 Z = true) (eT : T.heap = h) (hsize : L.size = c.maxLocals) {a : Addr} (hd : decode c.code pc = .ok (.invokespecial i, 3)) (hf : 1 ≤ R.frames) (W : Nat) (hW : (st.map fun v => v.category).sum ≤ W) (hl : W + 12 ≤ R.locals)
    (k : ∀ T', Stand p l e R s m args below meth c T' locs cells slots → T'.heap = h → Go p e below P (T'.setTop (mkF m (pc + 3) L st))) : Go p e below P (T.setTop (mkF m pc L (.ref a :: st))) := by
  obtain ⟨T', X', e', q⟩ := initO X hx hZ hown w1 w2 w3 eT (g := mkF m pc L (.ref a :: st)) rfl hsize rfl hd hf (W := W) (by show 2 * 0 + _ ≤ _; omega) hl
  exact Go.via q (k T' X' e')
/-! arrays -/
/-- the array at a holds just these values -/
def VArr (Z : State) (h : Heap) (a : Addr) (ty : FieldType) (vs : List Value) : Prop := ∃ c : Cell, Arr Z h a c ty ∧ c.slots = vs.toArray ∧ vs.length < 2 ^ 31
section VA
variable {h' : Heap} {a b : Addr} {ty : FieldType} {vs : List Value} {sl : Nat} {v : Value} {ws : List Addr}
theorem VArr.lt (F : VArr Z h a ty vs) : a < h.size := by obtain ⟨c, A, -⟩ := F; exact A.lt
theorem VArr.ext (F : VArr Z h a ty vs) (E : Ext h h') : VArr Z h' a ty vs := by obtain ⟨c, A, r⟩ := F; exact ⟨c, A.ext E, r⟩
theorem VArr.other (F : VArr Z h b ty vs) (W : Wr h h' a sl v) (q : b ≠ a) : VArr Z h' b ty vs := by obtain ⟨c, A, r⟩ := F; exact ⟨c, A.other W q, r⟩
theorem VArr.keep (F : VArr Z h a ty vs) (K : Keep h h' ws) (q : a ∉ ws) : VArr Z h' a ty vs := by obtain ⟨c, A, r⟩ := F; exact ⟨c, ⟨K.2.1 a c A.1 q, A.2⟩, r⟩
theorem VArr.same (F : VArr Z h a ty vs) (W : Wr h h' a sl v) : VArr Z h' a ty (vs.set sl v) := by
  obtain ⟨c, A, r1, r2⟩ := F
  refine ⟨c.setSlot sl v, A.same W, ?_, by simpa using r2⟩
  simp [Cell.setSlot, r1]
theorem neVE {C : String} {kk : Nat} (F : VArr Z h a ty vs) (E : Exa Z h b C) (wi : (Cond.instantiable C kk).before a0 Z = true) : a ≠ b := by
  obtain ⟨c, A, -⟩ := F
  exact (ne_arr E wi A).symm
end VA
theorem in_of {vs : List Value} {v : Value} {i : Nat} {j : Int32} {c : Cell} (hn : ¬ j < 0) (hi : j.toNatClampNeg = i) (hv : vs[i]? = some v) (r : c.slots = vs.toArray) : ¬ (j < 0 ∨ c.slots.size ≤ j.toNatClampNeg) ∧ c.slots[j.toNatClampNeg]? = some v := by
  have hlt : i < vs.length := by
    obtain ⟨q, -⟩ := List.getElem?_eq_some_iff.mp hv
    exact q
  refine ⟨fun q => ?_, ?_⟩
  · rcases q with q | q
    · exact hn q
    · rw [r, hi] at q; simp at q; omega
  · rw [hi, r]; simpa using hv
theorem in_of' {vs : List Value} {i : Nat} {j : Int32} {c : Cell} (hn : ¬ j < 0) (hi : j.toNatClampNeg = i) (hv : i < vs.length) (r : c.slots = vs.toArray) : ¬ (j < 0 ∨ c.slots.size ≤ j.toNatClampNeg) := by
  intro q
  rcases q with q | q
  · exact hn q
  · rw [r, hi] at q; simp at q; omega
theorem alen (X : Stand p l e R s m args below meth c T locs cells slots) (hx : p.tables.exec = Jvm.exec) (hZ : Z.Warmed39 s.vm) (eT : T.heap = h) {a : Addr} {ty : FieldType} {vs : List Value} (V : VArr Z h a ty vs) (n : Int32) (hn : vs.length.toInt32 = n) (hd : decode c.code pc = .ok (.arraylength, 1)) (k : Go p e below P (T.setTop (mkF m (pc + 1) L (.int n :: st)))) : Go p e below P (T.setTop (mkF m pc L (.ref a :: st))) := by
  obtain ⟨cl, A, r1, -⟩ := V
  have q : cl.slots.size.toInt32 = n := by rw [r1]; simpa using hn
  exact Go.via (fun t w => X.arraylength hx (cell := cl) (by rw [eT]; exact A.1) (State.isArrayOf_alike hZ.alike A.2.1) (g := mkF m pc L (.ref a :: st)) rfl rfl hd t (by rw [q]; exact w)) k
theorem iaload (X : Stand p l e R s m args below meth c T locs cells slots) (hx : p.tables.exec = Jvm.exec) (hZ : Z.Warmed39 s.vm) (eT : T.heap = h) {a : Addr} {vs : List Value} (V : VArr Z h a .int vs) {j : Int32} {v : Value} (i : Nat) (hn : ¬ j < 0) (hi : j.toNatClampNeg = i) (hv : vs[i]? = some v) (hd : decode c.code pc = .ok (.iaload, 1)) (k : Go p e below P (T.setTop (mkF m (pc + 1) L (v :: st)))) : Go p e below P (T.setTop (mkF m pc L (.int j :: .ref a :: st))) := by
  obtain ⟨cl, A, r1, -⟩ := V
  obtain ⟨q1, q2⟩ := in_of hn hi hv r1
  exact Go.via (fun t w => X.iaload hx (by rw [eT]; exact A.1) (State.isArrayOf_alike hZ.alike A.2.1) A.2.2 q1 q2 (g := mkF m pc L (.int j :: .ref a :: st)) rfl rfl hd t w) k
theorem laload (X : Stand p l e R s m args below meth c T locs cells slots) (hx : p.tables.exec = Jvm.exec) (hZ : Z.Warmed39 s.vm) (eT : T.heap = h) {a : Addr} {vs : List Value} (V : VArr Z h a .long vs) {j : Int32} {v : Value} (i : Nat) (hn : ¬ j < 0) (hi : j.toNatClampNeg = i) (hv : vs[i]? = some v) (hd : decode c.code pc = .ok (.laload, 1)) (k : Go p e below P (T.setTop (mkF m (pc + 1) L (v :: st)))) : Go p e below P (T.setTop (mkF m pc L (.int j :: .ref a :: st))) := by
  obtain ⟨cl, A, r1, -⟩ := V
  obtain ⟨q1, q2⟩ := in_of hn hi hv r1
  exact Go.via (fun t w => X.laload hx (by rw [eT]; exact A.1) (State.isArrayOf_alike hZ.alike A.2.1) A.2.2 q1 q2 (g := mkF m pc L (.int j :: .ref a :: st)) rfl rfl hd t w) k
theorem baload (X : Stand p l e R s m args below meth c T locs cells slots) (hx : p.tables.exec = Jvm.exec) (hZ : Z.Warmed39 s.vm) (eT : T.heap = h) {a : Addr} {vs : List Value} (V : VArr Z h a .byte vs) {j : Int32} {v : Value} (i : Nat) (hn : ¬ j < 0) (hi : j.toNatClampNeg = i) (hv : vs[i]? = some v) (hd : decode c.code pc = .ok (.baload, 1)) (k : Go p e below P (T.setTop (mkF m (pc + 1) L (v :: st)))) : Go p e below P (T.setTop (mkF m pc L (.int j :: .ref a :: st))) := by
  obtain ⟨cl, A, r1, -⟩ := V
  obtain ⟨q1, q2⟩ := in_of hn hi hv r1
  exact Go.via (fun t w => X.baloadBytes hx (by rw [eT]; exact A.1) (State.isArrayOf_alike hZ.alike A.2.1) A.2.2 q1 q2 (g := mkF m pc L (.int j :: .ref a :: st)) rfl rfl hd t w) k
theorem iastore (X : Stand p l e R s m args below meth c T locs cells slots) (hx : p.tables.exec = Jvm.exec) (hZ : Z.Warmed39 s.vm) (eT : T.heap = h) {a : Addr} {vs : List Value} (V : VArr Z h a .int vs) {j x : Int32} (i : Nat) (hn : ¬ j < 0) (hi : j.toNatClampNeg = i) (hv : i < vs.length) {n0 : Nat} (N : Fr n0 locs) (ga : n0 ≤ a) (hd : decode c.code pc = .ok (.iastore, 1))
    (k : ∀ T' h', Stand p l e R s m args below meth c T' (locs ++ [⟨a, i⟩]) cells slots → T'.heap = h' → Wr h h' a i (.int x) → Fr n0 (locs ++ [⟨a, i⟩]) → VArr Z h' a .int (vs.set i (.int x)) → Go p e below P (T'.setTop (mkF m (pc + 1) L st))) : Go p e below P (T.setTop (mkF m pc L (.int x :: .int j :: .ref a :: st))) := by
  have V0 := V
  obtain ⟨cl, A, r1, -⟩ := V
  obtain ⟨T', h', X', e', W, q⟩ := stI X hx hZ eT A (in_of' hn hi hv r1) (g := mkF m pc L (.int x :: .int j :: .ref a :: st)) rfl rfl hd
  rw [hi] at X' W
  exact Go.via q (k T' h' X' e' W (Fr.snoc X' N ga) (V0.same W))
theorem lastore (X : Stand p l e R s m args below meth c T locs cells slots) (hx : p.tables.exec = Jvm.exec) (hZ : Z.Warmed39 s.vm) (eT : T.heap = h) {a : Addr} {vs : List Value} (V : VArr Z h a .long vs) {j : Int32} {x : Int64} (i : Nat) (hn : ¬ j < 0) (hi : j.toNatClampNeg = i) (hv : i < vs.length) {n0 : Nat} (N : Fr n0 locs) (ga : n0 ≤ a) (hd : decode c.code pc = .ok (.lastore, 1))
    (k : ∀ T' h', Stand p l e R s m args below meth c T' (locs ++ [⟨a, i⟩]) cells slots → T'.heap = h' → Wr h h' a i (.long x) → Fr n0 (locs ++ [⟨a, i⟩]) → VArr Z h' a .long (vs.set i (.long x)) → Go p e below P (T'.setTop (mkF m (pc + 1) L st))) : Go p e below P (T.setTop (mkF m pc L (.long x :: .int j :: .ref a :: st))) := by
  have V0 := V
  obtain ⟨cl, A, r1, -⟩ := V
  obtain ⟨T', h', X', e', W, q⟩ := stJ X hx hZ eT A (in_of' hn hi hv r1) (g := mkF m pc L (.long x :: .int j :: .ref a :: st)) rfl rfl hd
  rw [hi] at X' W
  exact Go.via q (k T' h' X' e' W (Fr.snoc X' N ga) (V0.same W))
theorem bastore (X : Stand p l e R s m args below meth c T locs cells slots) (hx : p.tables.exec = Jvm.exec) (hZ : Z.Warmed39 s.vm) (eT : T.heap = h) {a : Addr} {vs : List Value} (V : VArr Z h a .byte vs) {j x : Int32} (i : Nat) (hn : ¬ j < 0) (hi : j.toNatClampNeg = i) (hv : i < vs.length) {n0 : Nat} (N : Fr n0 locs) (ga : n0 ≤ a) (hd : decode c.code pc = .ok (.bastore, 1))
    (k : ∀ T' h', Stand p l e R s m args below meth c T' (locs ++ [⟨a, i⟩]) cells slots → T'.heap = h' → Wr h h' a i (.int x.toInt8.toInt32) → Fr n0 (locs ++ [⟨a, i⟩]) → VArr Z h' a .byte (vs.set i (.int x.toInt8.toInt32)) → Go p e below P (T'.setTop (mkF m (pc + 1) L st))) : Go p e below P (T.setTop (mkF m pc L (.int x :: .int j :: .ref a :: st))) := by
  have V0 := V
  obtain ⟨cl, A, r1, -⟩ := V
  obtain ⟨T', h', X', e', W, q⟩ := stB X hx hZ eT A (in_of' hn hi hv r1) (g := mkF m pc L (.int x :: .int j :: .ref a :: st)) rfl rfl hd
  rw [hi] at X' W
  exact Go.via q (k T' h' X' e' W (Fr.snoc X' N ga) (V0.same W))
theorem newarr (X : Stand p l e R s m args below meth c T locs cells slots) (hx : p.tables.exec = Jvm.exec) (hZ : Z.Warmed39 s.vm) {aty : ArrayType} (w : (Cond.arrayClass (newarray.typeOf aty)).before a0 Z = true) (eT : T.heap = h) (hd : decode c.code pc = .ok (.newarray aty, 2)) {n : Int32} (hn : ¬ n < 0) (i cap : Nat) (hi : n.toNatClampNeg = i) (hcap : i ≤ cap) (hb : cap * 8 ≤ 536870912) (hc : cells + 1 ≤ R.cells) (hl : slots + cap ≤ R.slots)
    (k : ∀ T' h' b, b = h.size → Stand p l e R s m args below meth c T' locs (cells + 1) (slots + cap) → T'.heap = h' → Ext h h' → VArr Z h' b (newarray.typeOf aty) (List.replicate i (defaultValue (newarray.typeOf aty))) → Go p e below P (T'.setTop (mkF m (pc + 2) L (.ref b :: st)))) : Go p e below P (T.setTop (mkF m pc L (.int n :: st))) := by
  obtain ⟨T', h', cA, X', e', E, A, q⟩ := newP X hx hZ w eT (g := mkF m pc L (.int n :: st)) rfl hd rfl hn (cap := cap) (by rw [hi]; exact hcap) hb hc hl
  refine Go.via q (k T' h' h.size rfl X' e' E ⟨_, A, ?_, ?_⟩)
  · simp [newA, hi]
  · simp; omega
/-! calls -/
theorem callStatic (X : Stand p l e R s m args below meth c T locs cells slots) (hx : p.tables.exec = Jvm.exec) (hZ : Z.Warmed39 s.vm) {own : String} {i : Nat} {y : MethodName} {bytes : ByteArray} {maxL : Nat} {ret : Option FieldType} {rm : Room} {Q : Option Value → Heap → List Loc → Prop}
    (hown : s.vm.findClass own = some m.cls) (w1 : (Cond.methodLink own i y).before a0 Z = true) (w2 : (Cond.static y).before a0 Z = true) (w3 : (Cond.initialized y.cls).before a0 Z = true) (w4 : (Cond.code y bytes maxL ret).before a0 Z = true) (hy : y.cls ≠ "java/lang/invoke/MethodHandle" ∧ y.cls ≠ "java/lang/invoke/VarHandle")
    (W : Nat) (argsL rest : List Value) (hM : Ct l y bytes maxL ret [] rm Z argsL.toArray h Q) (hf : rm.frames + 1 ≤ R.frames) (hl : W + (maxL + 11) + rm.locals ≤ R.locals) (eT : T.heap = h) (hsize : L.size = c.maxLocals) {ps : List FieldType} {rt : Option FieldType} (pd : parseMethodDescriptor y.desc = some ⟨ps, rt⟩) (hlen : argsL.length = ps.length) (hst : st = argsL.reverse ++ rest) (hW : (rest.map fun v => v.category).sum ≤ W)
    (hd : decode c.code pc = .ok (.invokestatic i, 3)) (hc : cells + rm.cells ≤ R.cells) (hn : slots + rm.slots ≤ R.slots)
    (k : ∀ T' L' v, Stand p l e R s m args below meth c T' (locs ++ L') (cells + rm.cells) (slots + rm.slots) → Q v T'.heap L' → Go p e below P (T'.setTop (mkF m (pc + 3) L (v.toList ++ rest)))) : Go p e below P (T.setTop (mkF m pc L st)) := by
  obtain ⟨v, _, ⟨T', L', k', n'⟩, -, X', ⟨Lc, hQ, l1, y1, z1⟩, q⟩ := Jvm.LawKit.callS X hx (y := y) hown (mvT hZ w1) (mvT hZ w2) (mvT hZ w3) (mvT hZ w4) hy (backOf (W := W) hM hZ w4 w3 hf hl) (g := mkF m pc L st) rfl hsize (argsL := argsL) (rest := rest) (lenOf pd hlen) hst (by show 2 * 0 + _ ≤ _; omega) hd (fun _ _ => ⟨rfl, eT, hc, hn⟩)
  dsimp only [Pt.U, Pt.locs, Pt.cells, Pt.slots] at X' l1 y1 z1 q hQ
  subst l1 y1 z1
  exact Go.via q (k T' Lc v X' hQ)
theorem callSpecial (X : Stand p l e R s m args below meth c T locs cells slots) (hx : p.tables.exec = Jvm.exec) (hZ : Z.Warmed39 s.vm) {own : String} {i : Nat} {y : MethodName} {bytes : ByteArray} {maxL : Nat} {rm : Room} {Q : Option Value → Heap → List Loc → Prop} (hy1 : y.name = "<init>")
    (hown : s.vm.findClass own = some m.cls) (w1 : (Cond.methodLink own i y).before a0 Z = true) (w2 : (Cond.instanceMethod y).before a0 Z = true) (w3 : (Cond.initialized y.cls).before a0 Z = true) (w4 : (Cond.code y bytes maxL none).before a0 Z = true) (hy : y.cls ≠ "java/lang/invoke/MethodHandle" ∧ y.cls ≠ "java/lang/invoke/VarHandle")
    (W : Nat) (a : Addr) (argsL rest : List Value) (hM : Ct l y bytes maxL none [] rm Z (.ref a :: argsL).toArray h Q) (hf : rm.frames + 1 ≤ R.frames) (hl : W + (maxL + 11) + rm.locals ≤ R.locals) (eT : T.heap = h) (hsize : L.size = c.maxLocals) {ps : List FieldType} {rt : Option FieldType} (pd : parseMethodDescriptor y.desc = some ⟨ps, rt⟩) (hlen : argsL.length = ps.length) (hst : st = argsL.reverse ++ .ref a :: rest) (hW : (rest.map fun v => v.category).sum ≤ W)
    (hd : decode c.code pc = .ok (.invokespecial i, 3)) (hc : cells + rm.cells ≤ R.cells) (hn : slots + rm.slots ≤ R.slots)
    (k : ∀ T' L' v, Stand p l e R s m args below meth c T' (locs ++ L') (cells + rm.cells) (slots + rm.slots) → Q v T'.heap L' → Go p e below P (T'.setTop (mkF m (pc + 3) L (v.toList ++ rest)))) : Go p e below P (T.setTop (mkF m pc L st)) := by
  obtain ⟨v, _, ⟨T', L', k', n'⟩, -, X', ⟨Lc, hQ, l1, y1, z1⟩, q⟩ := X.specialBack hx (y := y) hy1 hown (mvT hZ w1) (mvT hZ w2) (mvT hZ w4) hy (backOf (W := W) hM hZ w4 w3 hf hl) (g := mkF m pc L st) rfl hsize (Steps.refl _) (a := a) (argsL := argsL) (rest := rest) (lenOf pd hlen) hst (by show 2 * 0 + _ ≤ _; omega) hd (fun _ _ => ⟨rfl, eT, hc, hn⟩)
  dsimp only [Pt.U, Pt.locs, Pt.cells, Pt.slots] at X' l1 y1 z1 q hQ
  subst l1 y1 z1
  exact Go.tr q (k T' Lc v X' hQ)
theorem callVirtual (X : Stand p l e R s m args below meth c T locs cells slots) (hx : p.tables.exec = Jvm.exec) (hZ : Z.Warmed39 s.vm) {own C : String} {i : Nat} {y z : MethodName} {bytes : ByteArray} {maxL : Nat} {ret : Option FieldType} {rm : Room} {Q : Option Value → Heap → List Loc → Prop}
    (hown : s.vm.findClass own = some m.cls) (w1 : (Cond.methodLink own i y).before a0 Z = true) (w2 : (Cond.declares y).before a0 Z = true) (w3 : (Cond.selects C y z).before a0 Z = true) (w5 : (Cond.instanceMethod z).before a0 Z = true) (w6 : (Cond.initialized z.cls).before a0 Z = true) (w4 : (Cond.code z bytes maxL ret).before a0 Z = true) (w7 : (Cond.selects y.cls y y).before a0 Z = true) (hy : y.cls ≠ "java/lang/invoke/MethodHandle" ∧ y.cls ≠ "java/lang/invoke/VarHandle")
    (W : Nat) (a : Addr) (argsL rest : List Value) (E : Exa Z h a C) (hM : Ct l z bytes maxL ret [] rm Z (.ref a :: argsL).toArray h Q) (hf : rm.frames + 1 ≤ R.frames) (hl : W + (maxL + 11) + rm.locals ≤ R.locals) (eT : T.heap = h) (hsize : L.size = c.maxLocals) {ps : List FieldType} {rt : Option FieldType} (pd : parseMethodDescriptor y.desc = some ⟨ps, rt⟩) (hlen : argsL.length = ps.length) (hst : st = argsL.reverse ++ .ref a :: rest) (hW : (rest.map fun v => v.category).sum ≤ W)
    (hd : decode c.code pc = .ok (.invokevirtual i, 3)) (hc : cells + rm.cells ≤ R.cells) (hn : slots + rm.slots ≤ R.slots)
    (k : ∀ T' L' v, Stand p l e R s m args below meth c T' (locs ++ L') (cells + rm.cells) (slots + rm.slots) → Q v T'.heap L' → Go p e below P (T'.setTop (mkF m (pc + 3) L (v.toList ++ rest)))) : Go p e below P (T.setTop (mkF m pc L st)) := by
  obtain ⟨cq, kq, qa, qb, qc⟩ := isOf hZ eT E
  obtain ⟨v, _, ⟨T', L', k', n'⟩, -, X', ⟨Lc, hQ, l1, y1, z1⟩, q⟩ := X.virtualBack hx (y := y) (z := z) hown (mvT hZ w1) (mvT hZ w2) (notFace_of_selects (args := #[]) (mvT hZ w7)) (mvT hZ w3) (mvT hZ w5) hy (backOf (W := W) hM hZ w4 w6 hf hl) qa qc (g := mkF m pc L st) rfl hsize (Steps.refl _) (argsL := argsL) (rest := rest) (lenOf pd hlen) hst (by show 2 * 0 + _ ≤ _; omega) hd (fun _ _ => ⟨rfl, eT, hc, hn⟩)
  dsimp only [Pt.U, Pt.locs, Pt.cells, Pt.slots] at X' l1 y1 z1 q hQ
  subst l1 y1 z1
  exact Go.tr q (k T' Lc v X' hQ)
theorem callPrivate (X : Stand p l e R s m args below meth c T locs cells slots) (hx : p.tables.exec = Jvm.exec) (hZ : Z.Warmed39 s.vm) {own C : String} {i kk : Nat} {y : MethodName} {bytes : ByteArray} {maxL : Nat} {ret : Option FieldType} {rm : Room} {Q : Option Value → Heap → List Loc → Prop}
    (hown : s.vm.findClass own = some m.cls) (w1 : (Cond.methodLink own i y).before a0 Z = true) (w2 : (Cond.instanceMethod y).before a0 Z = true) (w3 : (Cond.privateMethod y).before a0 Z = true) (w5 : (Cond.instantiable y.cls kk).before a0 Z = true) (w6 : (Cond.initialized y.cls).before a0 Z = true) (w4 : (Cond.code y bytes maxL ret).before a0 Z = true) (hy : y.cls ≠ "java/lang/invoke/MethodHandle" ∧ y.cls ≠ "java/lang/invoke/VarHandle")
    (W : Nat) (a : Addr) (argsL rest : List Value) (E : Exa Z h a C) (hM : Ct l y bytes maxL ret [] rm Z (.ref a :: argsL).toArray h Q) (hf : rm.frames + 1 ≤ R.frames) (hl : W + (maxL + 11) + rm.locals ≤ R.locals) (eT : T.heap = h) (hsize : L.size = c.maxLocals) {ps : List FieldType} {rt : Option FieldType} (pd : parseMethodDescriptor y.desc = some ⟨ps, rt⟩) (hlen : argsL.length = ps.length) (hst : st = argsL.reverse ++ .ref a :: rest) (hW : (rest.map fun v => v.category).sum ≤ W)
    (hd : decode c.code pc = .ok (.invokevirtual i, 3)) (hc : cells + rm.cells ≤ R.cells) (hn : slots + rm.slots ≤ R.slots)
    (k : ∀ T' L' v, Stand p l e R s m args below meth c T' (locs ++ L') (cells + rm.cells) (slots + rm.slots) → Q v T'.heap L' → Go p e below P (T'.setTop (mkF m (pc + 3) L (v.toList ++ rest)))) : Go p e below P (T.setTop (mkF m pc L st)) := by
  have hP : s.PrivateAt y := Cond.privateMethod_at (args := #[]) (mvP hZ w3)
  have hsel : (Cond.selects y.cls y y).before args s = true := by
    have q : (Cond.instantiable y.cls kk).before args s = true := mvT hZ w5
    obtain ⟨c2, k2, i1, i2, -, i4, -⟩ := Cond.instantiable_spec q
    rw [Bool.or_eq_false_iff] at i4
    exact selects_self_of_private i1 i2 i4.1 hP (mvT hZ w2) hy
  obtain ⟨ce, he1, he2⟩ := E.cell
  obtain ⟨v, _, ⟨T', L', k', n'⟩, -, X', ⟨Lc, hQ, l1, y1, z1⟩, q⟩ := X.privateBack hx (y := y) hown (mvT hZ w1) (mvT hZ w2) hsel hP (mvT hZ w4) hy (backOf (W := W) hM hZ w4 w6 hf hl) (g := mkF m pc L st) rfl hsize (Steps.refl _) (a := a) (cell := ce) (by rw [eT]; exact he1) he2 (argsL := argsL) (rest := rest) (lenOf pd hlen) hst (by show 2 * 0 + _ ≤ _; omega) hd (fun _ _ => ⟨rfl, eT, hc, hn⟩)
  dsimp only [Pt.U, Pt.locs, Pt.cells, Pt.slots] at X' l1 y1 z1 q hQ
  subst l1 y1 z1
  exact Go.tr q (k T' Lc v X' hQ)
theorem getstatic (X : Stand p l e R s m args below meth c T locs cells slots) (hx : p.tables.exec = Jvm.exec) (hZ : Z.Warmed39 s.vm) {own R0 O n d : String} {i : Nat} (hown : s.vm.findClass own = some m.cls) (w : (Cond.fieldLink own i R0 n d).before a0 Z = true) (via : Via Z R0 O n d)
    (eT : T.heap = h) {v : Value} (F : Sta Z h O n d v) (hd : decode c.code pc = .ok (.getstatic i, 3)) (k : ∀ T', Stand p l e R s m args below meth c T' locs cells slots → T'.heap = h → Go p e below P (T'.setTop (mkF m (pc + 3) L (v :: st)))) : Go p e below P (T.setTop (mkF m pc L st)) := by
  obtain ⟨T', X', e', q⟩ := getS X hx hZ (host := "") hown w via eT F (g := mkF m pc L st) rfl hd
  exact Go.via q (k T' X' e')
theorem ldcFloat (X : Stand p l e R s m args below meth c T locs cells slots) (hx : p.tables.exec = Jvm.exec) (hZ : Z.Warmed39 s.vm) {own : String} {i : Nat} {b : UInt32} (hown : s.vm.findClass own = some m.cls) (w : (Cond.constantFloat own i b).before a0 Z = true) (hd : decode c.code pc = .ok (.ldc i, 2)) (k : Go p e below P (T.setTop (mkF m (pc + 2) L (.float b :: st)))) : Go p e below P (T.setTop (mkF m pc L st)) := Go.via (fun t q => X.ldcFloatC hx hown (mvT hZ w) (g := mkF m pc L st) rfl hd t q) k
theorem staKeep {O n d C : String} {v : Value} {h' : Heap} {a : Addr} (F : Sta Z h O n d v) (K : Keep h h' [a]) (E : Exa Z h a C) : Sta Z h' O n d v := by
  obtain ⟨cf, i, k, f, st, cell, h1, h2, h3, h4, h5, h6, h7⟩ := F
  obtain ⟨c2, k2, e1, -, -, e4, -⟩ := E
  have ne : st ∉ [a] := fun q => by
    cases List.mem_singleton.mp q
    cases h5.symm.trans e1
    rw [h6] at e4; cases e4
  exact ⟨cf, i, k, f, st, cell, h1, h2, h3, h4, K.2.1 _ _ h5 ne, h6, h7⟩
end Walk
end Jvm.Own
namespace Jvm.Pilot.@@N@@
open Jvm Jvm.ClassFile Sem Op Lib Jvm.Free Jvm.Stand Jvm.LawKit Jvm.RoadKit Bundle Jvm.Pilot.@@N@@.Jvm.D
theorem Wd {a0 : Array Value} {Z : State} (hw : ∀ d ∈ tables_1, d.before a0 Z = true) (i : Nat) {d : Jvm.Cond} (h : tables_1[i]? = some d) : d.before a0 Z = true := hw _ (List.mem_of_getElem? h)

theorem own_four (i : Int32) (h : 0 ≤ i.toInt) (h' : i.toInt ≤ 3) : i = 0 ∨ i = 1 ∨ i = 2 ∨ i = 3 := by
  have q : i.toInt = 0 ∨ i.toInt = 1 ∨ i.toInt = 2 ∨ i.toInt = 3 := by omega
  rcases q with q | q | q | q
  · exact Or.inl (Int32.toInt_inj.mp q)
  · exact Or.inr (Or.inl (Int32.toInt_inj.mp q))
  · exact Or.inr (Or.inr (Or.inl (Int32.toInt_inj.mp q)))
  · exact Or.inr (Or.inr (Or.inr (Int32.toInt_inj.mp q)))
theorem own_off (o : Int32) : 0 ≤ (o &&& (3 : Int32)).toInt ∧ (o &&& (3 : Int32)).toInt ≤ 3 := c_and o 3 (by decide)
theorem own_sub (x : Int32) (h : 0 ≤ x.toInt ∧ x.toInt ≤ 3) : ((4 : Int32) - x).toInt = 4 - x.toInt := by
  have a := c_isub 4 x
  have b := rng32 ((4 : Int32) - x)
  have c : (4 : Int32).toInt = 4 := by decide
  omega
theorem own_nz (x : Int32) (h : 0 ≤ x.toInt ∧ x.toInt ≤ 3) : (4 : Int32) - x ≠ 0 := fun q => by
  have a := own_sub x h
  rw [q] at a
  have c : (0 : Int32).toInt = 0 := by decide
  omega
theorem own_node (n x : Int32) (h : 0 ≤ x.toInt ∧ x.toInt ≤ 3) : 0 ≤ ((n &&& (2147483647 : Int32)) % ((4 : Int32) - x)).toInt ∧ ((n &&& (2147483647 : Int32)) % ((4 : Int32) - x)).toInt < 4 - x.toInt := by
  have a := own_sub x h
  have b := (c_and n (2147483647 : Int32) (by decide)).1
  have c := (c_iremV (n &&& (2147483647 : Int32)) ((4 : Int32) - x)).1 b (by omega)
  omega
theorem own_sum (x y : Int32) (h : 0 ≤ x.toInt ∧ x.toInt ≤ 3) (h' : 0 ≤ y.toInt ∧ y.toInt < 4 - x.toInt) : (x + y = 0 ∨ x + y = 1 ∨ x + y = 2 ∨ x + y = 3) := by
  have a := c_iadd x y
  have b := rng32 (x + y)
  exact own_four _ (by omega) (by omega)
theorem own_nn {z : Int32} (h : z = 0 ∨ z = 1 ∨ z = 2 ∨ z = 3) : ¬ z < 0 := by rcases h with rfl | rfl | rfl | rfl <;> decide
theorem own_get {z : Int32} (a b c d : Int64) (h : z = 0 ∨ z = 1 ∨ z = 2 ∨ z = 3) : ([(.long a), (.long b), (.long c), (.long d)] : List Value)[z.toNatClampNeg]? = some (.long (if z = 0 then a else if z = 1 then b else if z = 2 then c else d)) := by
  rcases h with rfl | rfl | rfl | rfl <;> rfl
theorem d1_0 : decode prog_44_method_2_code 0 = .ok (.aload_n 0, 1) := by decide +kernel
theorem d1_1 : decode prog_44_method_2_code 1 = .ok (.invokespecial 13, 3) := by decide +kernel
theorem d1_4 : decode prog_44_method_2_code 4 = .ok (.aload_n 0, 1) := by decide +kernel
theorem d1_5 : decode prog_44_method_2_code 5 = .ok (.ldc2_w 18, 3) := by decide +kernel
theorem d1_8 : decode prog_44_method_2_code 8 = .ok (.putfield 20, 3) := by decide +kernel
theorem d1_11 : decode prog_44_method_2_code 11 = .ok (.aload_n 0, 1) := by decide +kernel
theorem d1_12 : decode prog_44_method_2_code 12 = .ok (.aload_n 1, 1) := by decide +kernel
theorem d1_13 : decode prog_44_method_2_code 13 = .ok (.putfield 24, 3) := by decide +kernel
theorem d1_16 : decode prog_44_method_2_code 16 = .ok (.aload_n 0, 1) := by decide +kernel
theorem d1_17 : decode prog_44_method_2_code 17 = .ok (.iload_n 2, 1) := by decide +kernel
theorem d1_18 : decode prog_44_method_2_code 18 = .ok (.putfield 28, 3) := by decide +kernel
theorem d1_21 : decode prog_44_method_2_code 21 = .ok (.aload_n 0, 1) := by decide +kernel
theorem d1_22 : decode prog_44_method_2_code 22 = .ok (.aload_n 3, 1) := by decide +kernel
theorem d1_23 : decode prog_44_method_2_code 23 = .ok (.putfield 32, 3) := by decide +kernel
theorem d1_26 : decode prog_44_method_2_code 26 = .ok (.aload_n 0, 1) := by decide +kernel
theorem d1_27 : decode prog_44_method_2_code 27 = .ok (.iload 4, 2) := by decide +kernel
theorem d1_29 : decode prog_44_method_2_code 29 = .ok (.putfield 36, 3) := by decide +kernel
theorem d1_32 : decode prog_44_method_2_code 32 = .ok (.aload_n 0, 1) := by decide +kernel
theorem d1_33 : decode prog_44_method_2_code 33 = .ok (.aload 5, 2) := by decide +kernel
theorem d1_35 : decode prog_44_method_2_code 35 = .ok (.putfield 39, 3) := by decide +kernel
theorem d1_38 : decode prog_44_method_2_code 38 = .ok (.return_, 1) := by decide +kernel
theorem ef_rm1 (m : MethodId) (o : Addr) (src : Int32) (ks : Addr) (off : Int32) : entryFrame m #[(.ref o), .null, (.int src), (.ref ks), (.int off), .null] 6 = mkF m 0 #[.val (.ref o), .val .null, .val (.int src), .val (.ref ks), .val (.int off), .val .null] [] := by first | (simp [entryFrame, mkF, argsToLocals, Value.category]; done) | rfl
theorem pn0 : plainName "com/example/hopwise/hopwise/paths/Row" = true := by first | (simp [plainName, overriddenIn]; done) | decide +kernel
set_option maxRecDepth 65536 in
set_option maxHeartbeats 40000000 in
theorem rm1 (l : Launch) (Z : State) (a0 : Array Value) (hw : ∀ d ∈ tables_1, d.before a0 Z = true) (o : Addr) (src : Int32) (ks : Addr) (off : Int32) (h0 : Heap) (n0 : Nat) (Z0 : n0 ≤ h0.size) (E_o : Exa Z h0 o "com/example/hopwise/hopwise/paths/Row") (F_o_lowered : Fld Z h0 o "com/example/hopwise/hopwise/paths/Row" "lowered" "J" (.long (0 : Int64))) (F_o_graph : Fld Z h0 o "com/example/hopwise/hopwise/paths/Row" "graph" "Lcom/example/hopwise/hopwise/graph/Graph;" .null) (F_o_source : Fld Z h0 o "com/example/hopwise/hopwise/paths/Row" "source" "I" (.int (0 : Int32))) (F_o_keys : Fld Z h0 o "com/example/hopwise/hopwise/paths/Row" "keys" "[J" .null) (F_o_offset : Fld Z h0 o "com/example/hopwise/hopwise/paths/Row" "offset" "I" (.int (0 : Int32))) (F_o_pathKeys : Fld Z h0 o "com/example/hopwise/hopwise/paths/Row" "pathKeys" "Lcom/example/hopwise/hopwise/paths/PathKeys;" .null) (ge_o : n0 ≤ o) :
    Own.Ct l (⟨"com/example/hopwise/hopwise/paths/Row", "<init>", "(Lcom/example/hopwise/hopwise/graph/Graph;I[JILcom/example/hopwise/hopwise/paths/PathKeys;)V"⟩ : MethodName) prog_44_method_2_code 6 none [] ({ frames := 1, cells := 0, slots := 0, locals := 12 } : Room) Z #[(.ref o), .null, (.int src), (.ref ks), (.int off), .null] h0 (fun rV hP lC => rV = none ∧ Fr n0 lC ∧ Keep h0 hP [o] ∧ Fld Z hP o "com/example/hopwise/hopwise/paths/Row" "keys" "[J" (.ref ks) ∧ Fld Z hP o "com/example/hopwise/hopwise/paths/Row" "offset" "I" (.int off)) := by
  refine Own.enter (plainFor_of_name pn0) ?_
  intro p e s m below meth cc s₁ hx hby hml hown hnm hret hk hZ X0 e0
  have N0 := Fr.nil n0
  refine Own.start (ef_rm1 m o src ks off) ?_
  have K : Keep h0 h0 [o] := Keep.refl _ _
  refine Own.aloadN X0 hx (pc := 0) (hb hby d1_0) rfl rfl ?_
  refine Own.initObj X0 hx hZ (pc := 1) hown (Wd hw 8 rfl) (Wd hw 9 rfl) (Wd hw 10 rfl) e0 (by rw [hml]; rfl) (hb hby d1_1) (by decide) 0 (Nat.le_of_eq rfl) (by decide) ?_
  intro T1 X1 e1
  refine Own.aloadN X1 hx (pc := 4) (hb hby d1_4) rfl rfl ?_
  refine Own.ldc2J X1 hx hZ (pc := 5) hown (Wd hw 11 rfl) (hb hby d1_5) ?_
  refine Own.putfield X1 hx hZ (pc := 8) hown (host := "") (Or.inl (Wd hw 12 rfl)) Via.refl e1 F_o_lowered E_o (Or.inl (Wd hw 13 rfl)) (Wd hw 3 rfl) (ty := .long) (by decide) rfl rfl N0 ge_o (hb hby d1_8) ?_
  intro T2 h2 X2 e2 W2 N2 F_o_lowered
  have sz2 : n0 ≤ h2.size := Nat.le_trans Z0 (Nat.le_of_eq (Wr.size W2).symm)
  have E_o := Exa.wr W2 E_o
  have F_o_graph := Fld.other W2 F_o_graph (Or.inr (slot_ne (Or.inr (Wd hw 15 rfl)) (Or.inl (Wd hw 13 rfl)) (by decide) (ht := (by decide : parseFieldDescriptor "Lcom/example/hopwise/hopwise/graph/Graph;" = some (.object "com/example/hopwise/hopwise/graph/Graph"))) (ht' := (by decide : parseFieldDescriptor "J" = some .long))))
  have F_o_source := Fld.other W2 F_o_source (Or.inr (slot_ne (Or.inl (Wd hw 17 rfl)) (Or.inl (Wd hw 13 rfl)) (by decide) (ht := (by decide : parseFieldDescriptor "I" = some .int)) (ht' := (by decide : parseFieldDescriptor "J" = some .long))))
  have F_o_keys := Fld.other W2 F_o_keys (Or.inr (slot_ne (Or.inr (Wd hw 19 rfl)) (Or.inl (Wd hw 13 rfl)) (by decide) (ht := (by decide : parseFieldDescriptor "[J" = some (.array .long))) (ht' := (by decide : parseFieldDescriptor "J" = some .long))))
  have F_o_offset := Fld.other W2 F_o_offset (Or.inr (slot_ne (Or.inr (Wd hw 21 rfl)) (Or.inl (Wd hw 13 rfl)) (by decide) (ht := (by decide : parseFieldDescriptor "I" = some .int)) (ht' := (by decide : parseFieldDescriptor "J" = some .long))))
  have F_o_pathKeys := Fld.other W2 F_o_pathKeys (Or.inr (slot_ne (Or.inr (Wd hw 23 rfl)) (Or.inl (Wd hw 13 rfl)) (by decide) (ht := (by decide : parseFieldDescriptor "Lcom/example/hopwise/hopwise/paths/PathKeys;" = some (.object "com/example/hopwise/hopwise/paths/PathKeys"))) (ht' := (by decide : parseFieldDescriptor "J" = some .long))))
  have K := K.wr W2 (Or.inl (by simp))
  refine Own.aloadN X2 hx (pc := 11) (hb hby d1_11) rfl rfl ?_
  refine Own.aloadN X2 hx (pc := 12) (hb hby d1_12) rfl rfl ?_
  refine Own.putfield X2 hx hZ (pc := 13) hown (host := "") (Or.inl (Wd hw 14 rfl)) Via.refl e2 F_o_graph E_o (Or.inr ⟨(Wd hw 15 rfl), rfl, hnm⟩) (Wd hw 3 rfl) (ty := (.object "com/example/hopwise/hopwise/graph/Graph")) (by decide) rfl rfl N2 ge_o (hb hby d1_13) ?_
  intro T3 h3 X3 e3 W3 N3 F_o_graph
  have sz3 : n0 ≤ h3.size := Nat.le_trans sz2 (Nat.le_of_eq (Wr.size W3).symm)
  have E_o := Exa.wr W3 E_o
  have F_o_lowered := Fld.other W3 F_o_lowered (Or.inr (slot_ne (Or.inl (Wd hw 13 rfl)) (Or.inr (Wd hw 15 rfl)) (by decide) (ht := (by decide : parseFieldDescriptor "J" = some .long)) (ht' := (by decide : parseFieldDescriptor "Lcom/example/hopwise/hopwise/graph/Graph;" = some (.object "com/example/hopwise/hopwise/graph/Graph")))))
  have F_o_source := Fld.other W3 F_o_source (Or.inr (slot_ne (Or.inl (Wd hw 17 rfl)) (Or.inr (Wd hw 15 rfl)) (by decide) (ht := (by decide : parseFieldDescriptor "I" = some .int)) (ht' := (by decide : parseFieldDescriptor "Lcom/example/hopwise/hopwise/graph/Graph;" = some (.object "com/example/hopwise/hopwise/graph/Graph")))))
  have F_o_keys := Fld.other W3 F_o_keys (Or.inr (slot_ne (Or.inr (Wd hw 19 rfl)) (Or.inr (Wd hw 15 rfl)) (by decide) (ht := (by decide : parseFieldDescriptor "[J" = some (.array .long))) (ht' := (by decide : parseFieldDescriptor "Lcom/example/hopwise/hopwise/graph/Graph;" = some (.object "com/example/hopwise/hopwise/graph/Graph")))))
  have F_o_offset := Fld.other W3 F_o_offset (Or.inr (slot_ne (Or.inr (Wd hw 21 rfl)) (Or.inr (Wd hw 15 rfl)) (by decide) (ht := (by decide : parseFieldDescriptor "I" = some .int)) (ht' := (by decide : parseFieldDescriptor "Lcom/example/hopwise/hopwise/graph/Graph;" = some (.object "com/example/hopwise/hopwise/graph/Graph")))))
  have F_o_pathKeys := Fld.other W3 F_o_pathKeys (Or.inr (slot_ne (Or.inr (Wd hw 23 rfl)) (Or.inr (Wd hw 15 rfl)) (by decide) (ht := (by decide : parseFieldDescriptor "Lcom/example/hopwise/hopwise/paths/PathKeys;" = some (.object "com/example/hopwise/hopwise/paths/PathKeys"))) (ht' := (by decide : parseFieldDescriptor "Lcom/example/hopwise/hopwise/graph/Graph;" = some (.object "com/example/hopwise/hopwise/graph/Graph")))))
  have K := K.wr W3 (Or.inl (by simp))
  refine Own.aloadN X3 hx (pc := 16) (hb hby d1_16) rfl rfl ?_
  refine Own.iloadN X3 hx (pc := 17) (hb hby d1_17) rfl ?_
  refine Own.putfield X3 hx hZ (pc := 18) hown (host := "") (Or.inl (Wd hw 16 rfl)) Via.refl e3 F_o_source E_o (Or.inl (Wd hw 17 rfl)) (Wd hw 3 rfl) (ty := .int) (by decide) rfl rfl N3 ge_o (hb hby d1_18) ?_
  intro T4 h4 X4 e4 W4 N4 F_o_source
  have sz4 : n0 ≤ h4.size := Nat.le_trans sz3 (Nat.le_of_eq (Wr.size W4).symm)
  have E_o := Exa.wr W4 E_o
  have F_o_lowered := Fld.other W4 F_o_lowered (Or.inr (slot_ne (Or.inl (Wd hw 13 rfl)) (Or.inl (Wd hw 17 rfl)) (by decide) (ht := (by decide : parseFieldDescriptor "J" = some .long)) (ht' := (by decide : parseFieldDescriptor "I" = some .int))))
  have F_o_graph := Fld.other W4 F_o_graph (Or.inr (slot_ne (Or.inr (Wd hw 15 rfl)) (Or.inl (Wd hw 17 rfl)) (by decide) (ht := (by decide : parseFieldDescriptor "Lcom/example/hopwise/hopwise/graph/Graph;" = some (.object "com/example/hopwise/hopwise/graph/Graph"))) (ht' := (by decide : parseFieldDescriptor "I" = some .int))))
  have F_o_keys := Fld.other W4 F_o_keys (Or.inr (slot_ne (Or.inr (Wd hw 19 rfl)) (Or.inl (Wd hw 17 rfl)) (by decide) (ht := (by decide : parseFieldDescriptor "[J" = some (.array .long))) (ht' := (by decide : parseFieldDescriptor "I" = some .int))))
  have F_o_offset := Fld.other W4 F_o_offset (Or.inr (slot_ne (Or.inr (Wd hw 21 rfl)) (Or.inl (Wd hw 17 rfl)) (by decide) (ht := (by decide : parseFieldDescriptor "I" = some .int)) (ht' := (by decide : parseFieldDescriptor "I" = some .int))))
  have F_o_pathKeys := Fld.other W4 F_o_pathKeys (Or.inr (slot_ne (Or.inr (Wd hw 23 rfl)) (Or.inl (Wd hw 17 rfl)) (by decide) (ht := (by decide : parseFieldDescriptor "Lcom/example/hopwise/hopwise/paths/PathKeys;" = some (.object "com/example/hopwise/hopwise/paths/PathKeys"))) (ht' := (by decide : parseFieldDescriptor "I" = some .int))))
  have K := K.wr W4 (Or.inl (by simp))
  refine Own.aloadN X4 hx (pc := 21) (hb hby d1_21) rfl rfl ?_
  refine Own.aloadN X4 hx (pc := 22) (hb hby d1_22) rfl rfl ?_
  refine Own.putfield X4 hx hZ (pc := 23) hown (host := "") (Or.inl (Wd hw 18 rfl)) Via.refl e4 F_o_keys E_o (Or.inr ⟨(Wd hw 19 rfl), rfl, hnm⟩) (Wd hw 3 rfl) (ty := (.array .long)) (by decide) rfl rfl N4 ge_o (hb hby d1_23) ?_
  intro T5 h5 X5 e5 W5 N5 F_o_keys
  have sz5 : n0 ≤ h5.size := Nat.le_trans sz4 (Nat.le_of_eq (Wr.size W5).symm)
  have E_o := Exa.wr W5 E_o
  have F_o_lowered := Fld.other W5 F_o_lowered (Or.inr (slot_ne (Or.inl (Wd hw 13 rfl)) (Or.inr (Wd hw 19 rfl)) (by decide) (ht := (by decide : parseFieldDescriptor "J" = some .long)) (ht' := (by decide : parseFieldDescriptor "[J" = some (.array .long)))))
  have F_o_graph := Fld.other W5 F_o_graph (Or.inr (slot_ne (Or.inr (Wd hw 15 rfl)) (Or.inr (Wd hw 19 rfl)) (by decide) (ht := (by decide : parseFieldDescriptor "Lcom/example/hopwise/hopwise/graph/Graph;" = some (.object "com/example/hopwise/hopwise/graph/Graph"))) (ht' := (by decide : parseFieldDescriptor "[J" = some (.array .long)))))
  have F_o_source := Fld.other W5 F_o_source (Or.inr (slot_ne (Or.inl (Wd hw 17 rfl)) (Or.inr (Wd hw 19 rfl)) (by decide) (ht := (by decide : parseFieldDescriptor "I" = some .int)) (ht' := (by decide : parseFieldDescriptor "[J" = some (.array .long)))))
  have F_o_offset := Fld.other W5 F_o_offset (Or.inr (slot_ne (Or.inr (Wd hw 21 rfl)) (Or.inr (Wd hw 19 rfl)) (by decide) (ht := (by decide : parseFieldDescriptor "I" = some .int)) (ht' := (by decide : parseFieldDescriptor "[J" = some (.array .long)))))
  have F_o_pathKeys := Fld.other W5 F_o_pathKeys (Or.inr (slot_ne (Or.inr (Wd hw 23 rfl)) (Or.inr (Wd hw 19 rfl)) (by decide) (ht := (by decide : parseFieldDescriptor "Lcom/example/hopwise/hopwise/paths/PathKeys;" = some (.object "com/example/hopwise/hopwise/paths/PathKeys"))) (ht' := (by decide : parseFieldDescriptor "[J" = some (.array .long)))))
  have K := K.wr W5 (Or.inl (by simp))
  refine Own.aloadN X5 hx (pc := 26) (hb hby d1_26) rfl rfl ?_
  refine Own.iload X5 hx (pc := 27) (hb hby d1_27) rfl ?_
  refine Own.putfield X5 hx hZ (pc := 29) hown (host := "") (Or.inl (Wd hw 20 rfl)) Via.refl e5 F_o_offset E_o (Or.inr ⟨(Wd hw 21 rfl), rfl, hnm⟩) (Wd hw 3 rfl) (ty := .int) (by decide) rfl rfl N5 ge_o (hb hby d1_29) ?_
  intro T6 h6 X6 e6 W6 N6 F_o_offset
  have sz6 : n0 ≤ h6.size := Nat.le_trans sz5 (Nat.le_of_eq (Wr.size W6).symm)
  have E_o := Exa.wr W6 E_o
  have F_o_lowered := Fld.other W6 F_o_lowered (Or.inr (slot_ne (Or.inl (Wd hw 13 rfl)) (Or.inr (Wd hw 21 rfl)) (by decide) (ht := (by decide : parseFieldDescriptor "J" = some .long)) (ht' := (by decide : parseFieldDescriptor "I" = some .int))))
  have F_o_graph := Fld.other W6 F_o_graph (Or.inr (slot_ne (Or.inr (Wd hw 15 rfl)) (Or.inr (Wd hw 21 rfl)) (by decide) (ht := (by decide : parseFieldDescriptor "Lcom/example/hopwise/hopwise/graph/Graph;" = some (.object "com/example/hopwise/hopwise/graph/Graph"))) (ht' := (by decide : parseFieldDescriptor "I" = some .int))))
  have F_o_source := Fld.other W6 F_o_source (Or.inr (slot_ne (Or.inl (Wd hw 17 rfl)) (Or.inr (Wd hw 21 rfl)) (by decide) (ht := (by decide : parseFieldDescriptor "I" = some .int)) (ht' := (by decide : parseFieldDescriptor "I" = some .int))))
  have F_o_keys := Fld.other W6 F_o_keys (Or.inr (slot_ne (Or.inr (Wd hw 19 rfl)) (Or.inr (Wd hw 21 rfl)) (by decide) (ht := (by decide : parseFieldDescriptor "[J" = some (.array .long))) (ht' := (by decide : parseFieldDescriptor "I" = some .int))))
  have F_o_pathKeys := Fld.other W6 F_o_pathKeys (Or.inr (slot_ne (Or.inr (Wd hw 23 rfl)) (Or.inr (Wd hw 21 rfl)) (by decide) (ht := (by decide : parseFieldDescriptor "Lcom/example/hopwise/hopwise/paths/PathKeys;" = some (.object "com/example/hopwise/hopwise/paths/PathKeys"))) (ht' := (by decide : parseFieldDescriptor "I" = some .int))))
  have K := K.wr W6 (Or.inl (by simp))
  refine Own.aloadN X6 hx (pc := 32) (hb hby d1_32) rfl rfl ?_
  refine Own.aload X6 hx (pc := 33) (hb hby d1_33) rfl rfl ?_
  refine Own.putfield X6 hx hZ (pc := 35) hown (host := "") (Or.inl (Wd hw 22 rfl)) Via.refl e6 F_o_pathKeys E_o (Or.inr ⟨(Wd hw 23 rfl), rfl, hnm⟩) (Wd hw 3 rfl) (ty := (.object "com/example/hopwise/hopwise/paths/PathKeys")) (by decide) rfl rfl N6 ge_o (hb hby d1_35) ?_
  intro T7 h7 X7 e7 W7 N7 F_o_pathKeys
  have sz7 : n0 ≤ h7.size := Nat.le_trans sz6 (Nat.le_of_eq (Wr.size W7).symm)
  have E_o := Exa.wr W7 E_o
  have F_o_lowered := Fld.other W7 F_o_lowered (Or.inr (slot_ne (Or.inl (Wd hw 13 rfl)) (Or.inr (Wd hw 23 rfl)) (by decide) (ht := (by decide : parseFieldDescriptor "J" = some .long)) (ht' := (by decide : parseFieldDescriptor "Lcom/example/hopwise/hopwise/paths/PathKeys;" = some (.object "com/example/hopwise/hopwise/paths/PathKeys")))))
  have F_o_graph := Fld.other W7 F_o_graph (Or.inr (slot_ne (Or.inr (Wd hw 15 rfl)) (Or.inr (Wd hw 23 rfl)) (by decide) (ht := (by decide : parseFieldDescriptor "Lcom/example/hopwise/hopwise/graph/Graph;" = some (.object "com/example/hopwise/hopwise/graph/Graph"))) (ht' := (by decide : parseFieldDescriptor "Lcom/example/hopwise/hopwise/paths/PathKeys;" = some (.object "com/example/hopwise/hopwise/paths/PathKeys")))))
  have F_o_source := Fld.other W7 F_o_source (Or.inr (slot_ne (Or.inl (Wd hw 17 rfl)) (Or.inr (Wd hw 23 rfl)) (by decide) (ht := (by decide : parseFieldDescriptor "I" = some .int)) (ht' := (by decide : parseFieldDescriptor "Lcom/example/hopwise/hopwise/paths/PathKeys;" = some (.object "com/example/hopwise/hopwise/paths/PathKeys")))))
  have F_o_keys := Fld.other W7 F_o_keys (Or.inr (slot_ne (Or.inr (Wd hw 19 rfl)) (Or.inr (Wd hw 23 rfl)) (by decide) (ht := (by decide : parseFieldDescriptor "[J" = some (.array .long))) (ht' := (by decide : parseFieldDescriptor "Lcom/example/hopwise/hopwise/paths/PathKeys;" = some (.object "com/example/hopwise/hopwise/paths/PathKeys")))))
  have F_o_offset := Fld.other W7 F_o_offset (Or.inr (slot_ne (Or.inr (Wd hw 21 rfl)) (Or.inr (Wd hw 23 rfl)) (by decide) (ht := (by decide : parseFieldDescriptor "I" = some .int)) (ht' := (by decide : parseFieldDescriptor "Lcom/example/hopwise/hopwise/paths/PathKeys;" = some (.object "com/example/hopwise/hopwise/paths/PathKeys")))))
  have K := K.wr W7 (Or.inl (by simp))
  exact Own.vreturn X7 hx hk hret (hb hby d1_38) e7 ⟨rfl, N7, K, F_o_keys, F_o_offset⟩ (by decide) (by decide)
theorem d3_0 : decode prog_44_method_11_code 0 = .ok (.aload_n 0, 1) := by decide +kernel
theorem d3_1 : decode prog_44_method_11_code 1 = .ok (.getfield 32, 3) := by decide +kernel
theorem d3_4 : decode prog_44_method_11_code 4 = .ok (.aload_n 0, 1) := by decide +kernel
theorem d3_5 : decode prog_44_method_11_code 5 = .ok (.getfield 36, 3) := by decide +kernel
theorem d3_8 : decode prog_44_method_11_code 8 = .ok (.iload_n 1, 1) := by decide +kernel
theorem d3_9 : decode prog_44_method_11_code 9 = .ok (.iadd, 1) := by decide +kernel
theorem d3_10 : decode prog_44_method_11_code 10 = .ok (.laload, 1) := by decide +kernel
theorem d3_11 : decode prog_44_method_11_code 11 = .ok (.lreturn, 1) := by decide +kernel
theorem ef_rm3 (m : MethodId) (o : Addr) (nd : Int32) : entryFrame m #[(.ref o), (.int nd)] 2 = mkF m 0 #[.val (.ref o), .val (.int nd)] [] := by first | (simp [entryFrame, mkF, argsToLocals, Value.category]; done) | rfl
set_option maxRecDepth 65536 in
set_option maxHeartbeats 40000000 in
theorem rm3 (l : Launch) (Z : State) (a0 : Array Value) (hw : ∀ d ∈ tables_1, d.before a0 Z = true) (o : Addr) (nd : Int32) (ks : Addr) (off : Int32) (vs : List Value) (r : Int64) (h0 : Heap) (n0 : Nat) (Z0 : n0 ≤ h0.size) (F_o_keys : Fld Z h0 o "com/example/hopwise/hopwise/paths/Row" "keys" "[J" (.ref ks)) (F_o_offset : Fld Z h0 o "com/example/hopwise/hopwise/paths/Row" "offset" "I" (.int off)) (V_ks : Own.VArr Z h0 ks .long vs) (hn : ¬ (off + nd) < 0) (hv : vs[(off + nd).toNatClampNeg]? = some (.long r)) :
    Own.Ct l (⟨"com/example/hopwise/hopwise/paths/Row", "key", "(I)J"⟩ : MethodName) prog_44_method_11_code 2 (some .long) [] ({ frames := 0, cells := 0, slots := 0, locals := 0 } : Room) Z #[(.ref o), (.int nd)] h0 (fun rV hP lC => rV = some (.long r) ∧ Fr n0 lC ∧ hP = h0) := by
  refine Own.enter (plainFor_of_name pn0) ?_
  intro p e s m below meth cc s₁ hx hby hml hown hnm hret hk hZ X0 e0
  have N0 := Fr.nil n0
  refine Own.start (ef_rm3 m o nd) ?_
  refine Own.aloadN X0 hx (pc := 0) (hb hby d3_0) rfl rfl ?_
  refine Own.getfield X0 hx hZ (pc := 1) hown (host := "") (Or.inl (Wd hw 18 rfl)) Via.refl e0 F_o_keys (hb hby d3_1) ?_
  intro T1 X1 e1
  refine Own.aloadN X1 hx (pc := 4) (hb hby d3_4) rfl rfl ?_
  refine Own.getfield X1 hx hZ (pc := 5) hown (host := "") (Or.inl (Wd hw 20 rfl)) Via.refl e1 F_o_offset (hb hby d3_5) ?_
  intro T2 X2 e2
  refine Own.iloadN X2 hx (pc := 8) (hb hby d3_8) rfl ?_
  refine Own.iadd X2 hx (pc := 9) (hb hby d3_9) ?_
  refine Own.laload X2 hx hZ (pc := 10) e2 V_ks (v := (.long r)) (off + nd).toNatClampNeg hn rfl hv (hb hby d3_10) ?_
  exact Own.lreturn X2 hx hk hret (hb hby d3_11) e2 ⟨rfl, N0, rfl⟩ (by decide) (by decide)
theorem d4_0 : decode method_2_code 0 = .ok (.iload_n 0, 1) := by decide +kernel
theorem d4_1 : decode method_2_code 1 = .ok (.ifCond .ne 5, 3) := by decide +kernel
theorem d4_4 : decode method_2_code 4 = .ok (.lload_n 1, 1) := by decide +kernel
theorem d4_5 : decode method_2_code 5 = .ok (.lreturn, 1) := by decide +kernel
theorem d4_6 : decode method_2_code 6 = .ok (.iload_n 0, 1) := by decide +kernel
theorem d4_7 : decode method_2_code 7 = .ok (.iconst 1, 1) := by decide +kernel
theorem d4_8 : decode method_2_code 8 = .ok (.if_icmp .ne 5, 3) := by decide +kernel
theorem d4_11 : decode method_2_code 11 = .ok (.lload_n 3, 1) := by decide +kernel
theorem d4_12 : decode method_2_code 12 = .ok (.lreturn, 1) := by decide +kernel
theorem d4_13 : decode method_2_code 13 = .ok (.iload_n 0, 1) := by decide +kernel
theorem d4_14 : decode method_2_code 14 = .ok (.iconst 2, 1) := by decide +kernel
theorem d4_15 : decode method_2_code 15 = .ok (.if_icmp .ne 6, 3) := by decide +kernel
theorem d4_18 : decode method_2_code 18 = .ok (.lload 5, 2) := by decide +kernel
theorem d4_20 : decode method_2_code 20 = .ok (.lreturn, 1) := by decide +kernel
theorem d4_21 : decode method_2_code 21 = .ok (.lload 7, 2) := by decide +kernel
theorem d4_23 : decode method_2_code 23 = .ok (.lreturn, 1) := by decide +kernel
theorem ef_rm4 (m : MethodId) (i : Int32) (a : Int64) (b : Int64) (cc2 : Int64) (d : Int64) : entryFrame m #[(.int i), (.long a), (.long b), (.long cc2), (.long d)] 9 = mkF m 0 #[.val (.int i), .val (.long a), .second, .val (.long b), .second, .val (.long cc2), .second, .val (.long d), .second] [] := by first | (simp [entryFrame, mkF, argsToLocals, Value.category]; done) | rfl
theorem pn1 : plainName "com/example/hopwise/hopwise/paths/RowKeyPinLaw" = true := by first | (simp [plainName, overriddenIn]; done) | decide +kernel
set_option maxRecDepth 65536 in
set_option maxHeartbeats 40000000 in
theorem rm4 (l : Launch) (Z : State) (a0 : Array Value) (hw : ∀ d ∈ tables_1, d.before a0 Z = true) (i : Int32) (a : Int64) (b : Int64) (cc2 : Int64) (d : Int64) (h0 : Heap) (n0 : Nat) (Z0 : n0 ≤ h0.size) :
    Own.Ct l (⟨"com/example/hopwise/hopwise/paths/RowKeyPinLaw", "expected", "(IJJJJ)J"⟩ : MethodName) method_2_code 9 (some .long) [] ({ frames := 0, cells := 0, slots := 0, locals := 0 } : Room) Z #[(.int i), (.long a), (.long b), (.long cc2), (.long d)] h0 (fun rV hP lC => rV = some (.long (if i = 0 then a else if i = 1 then b else if i = 2 then cc2 else d)) ∧ Fr n0 lC ∧ hP = h0) := by
  refine Own.enter (plainFor_of_name pn1) ?_
  intro p e s m below meth cc s₁ hx hby hml hown hnm hret hk hZ X0 e0
  have N0 := Fr.nil n0
  refine Own.start (ef_rm4 m i a b cc2 d) ?_
  refine Own.iloadN X0 hx (pc := 0) (hb hby d4_0) rfl ?_
  by_cases c1 : i = (0 : Int32)
  · refine Own.ifNo X0 hx (pc := 1) (hb hby d4_1) (XT.i0_ne_f c1) ?_
    refine Own.lloadN X0 hx (pc := 4) (hb hby d4_4) rfl ?_
    exact Own.lreturn X0 hx hk hret (hb hby d4_5) e0 ⟨by simp [c1], N0, rfl⟩ (by decide) (by decide)
  · refine Own.ifYes X0 hx (pc := 1) 6 (hb hby d4_1) (XT.i0_ne_t c1) (by decide) (by decide) ?_
    refine Own.iloadN X0 hx (pc := 6) (hb hby d4_6) rfl ?_
    refine Own.iconst X0 hx (pc := 7) (1 : Int32) (hb hby d4_7) (by decide) ?_
    by_cases c2 : i = (1 : Int32)
    · refine Own.icmpNo X0 hx (pc := 8) (hb hby d4_8) (XT.ii_ne_f c2) ?_
      refine Own.lloadN X0 hx (pc := 11) (hb hby d4_11) rfl ?_
      exact Own.lreturn X0 hx hk hret (hb hby d4_12) e0 ⟨by simp [c1, c2], N0, rfl⟩ (by decide) (by decide)
    · refine Own.icmpYes X0 hx (pc := 8) 13 (hb hby d4_8) (XT.ii_ne_t c2) (by decide) (by decide) ?_
      refine Own.iloadN X0 hx (pc := 13) (hb hby d4_13) rfl ?_
      refine Own.iconst X0 hx (pc := 14) (2 : Int32) (hb hby d4_14) (by decide) ?_
      by_cases c3 : i = (2 : Int32)
      · refine Own.icmpNo X0 hx (pc := 15) (hb hby d4_15) (XT.ii_ne_f c3) ?_
        refine Own.lload X0 hx (pc := 18) (hb hby d4_18) rfl ?_
        exact Own.lreturn X0 hx hk hret (hb hby d4_20) e0 ⟨by simp [c1, c2, c3], N0, rfl⟩ (by decide) (by decide)
      · refine Own.icmpYes X0 hx (pc := 15) 21 (hb hby d4_15) (XT.ii_ne_t c3) (by decide) (by decide) ?_
        refine Own.lload X0 hx (pc := 21) (hb hby d4_21) rfl ?_
        exact Own.lreturn X0 hx hk hret (hb hby d4_23) e0 ⟨by simp [c1, c2, c3], N0, rfl⟩ (by decide) (by decide)
theorem pd2 : parseMethodDescriptor "(Lcom/example/hopwise/hopwise/graph/Graph;I[JILcom/example/hopwise/hopwise/paths/PathKeys;)V" = some ⟨[(.object "com/example/hopwise/hopwise/graph/Graph"), .int, (.array .long), .int, (.object "com/example/hopwise/hopwise/paths/PathKeys")], none⟩ := by decide +kernel
theorem pd3 : parseMethodDescriptor "(I)J" = some ⟨[.int], some .long⟩ := by decide +kernel
theorem pd4 : parseMethodDescriptor "(IJJJJ)J" = some ⟨[.int, .long, .long, .long, .long], some .long⟩ := by decide +kernel
theorem ef_law (m : MethodId) (a : Int64) (b : Int64) (c1 : Int64) (d : Int64) (o : Int32) (n : Int32) : entryFrame m #[(.long a), (.long b), (.long c1), (.long d), (.int o), (.int n)] maxLocals = mkF m 0 #[.val (.long a), .second, .val (.long b), .second, .val (.long c1), .second, .val (.long d), .second, .val (.int o), .val (.int n), .unset, .unset, .unset, .unset, .unset, .unset, .unset] [] := by first | (simp [entryFrame, mkF, argsToLocals, Value.category, maxLocals]; done) | rfl
set_option maxRecDepth 65536 in
set_option maxHeartbeats 400000000 in
theorem rm0 (l : Launch) (Z : State) (a0 : Array Value) (hw : ∀ d ∈ tables_1, d.before a0 Z = true) (a : Int64) (b : Int64) (c1 : Int64) (d : Int64) (o : Int32) (n : Int32) (h0 : Heap) (n0 : Nat) (Z0 : n0 ≤ h0.size) :
    Own.Ct l x code maxLocals ret tables_1 room_1 Z #[(.long a), (.long b), (.long c1), (.long d), (.int o), (.int n)] h0 (fun v _ L => v = some (.int 1) ∧ Fr n0 L) := by
  refine Own.enter (plainFor_of_name pn1) ?_
  intro p e s m below meth cc s₁ hx hby hml0 hown hnm hret hk hZ X0 e0
  have hml : cc.maxLocals = 17 := hml0
  have N0 := Fr.nil n0
  refine Own.start (ef_law m a b c1 d o n) ?_
  refine Own.iconst X0 hx (pc := 0) (4 : Int32) (hb hby at_0) (by decide) ?_
  refine Own.newarr X0 hx hZ (pc := 1) (aty := .long) (Wd hw 0 rfl) e0 (hb hby at_1) (by decide) 4 4 (by decide) (by decide) (by decide) (by decide) (by decide) ?_
  intro T1 h1 b1 g1 X1 e1 Ex1 V_b1
  have ge_b1 : n0 ≤ b1 := g1 ▸ Z0
  have sz1 : n0 ≤ h1.size := Nat.le_trans Z0 Ex1.1
  replace V_b1 : Own.VArr Z h1 b1 .long [(.long (0 : Int64)), (.long (0 : Int64)), (.long (0 : Int64)), (.long (0 : Int64))] := V_b1
  refine Own.astore X1 hx (pc := 3) #[.val (.long a), .second, .val (.long b), .second, .val (.long c1), .second, .val (.long d), .second, .val (.int o), .val (.int n), .val (.ref b1), .unset, .unset, .unset, .unset, .unset, .unset] (hb hby at_3) rfl rfl ?_
  refine Own.aload X1 hx (pc := 5) (hb hby at_5) rfl rfl ?_
  refine Own.iconst X1 hx (pc := 7) (0 : Int32) (hb hby at_7) (by decide) ?_
  refine Own.lloadN X1 hx (pc := 8) (hb hby at_8) rfl ?_
  refine Own.lastore X1 hx hZ (pc := 9) e1 V_b1 0 (by decide) (by decide) (of_decide_eq_true rfl) N0 ge_b1 (hb hby at_9) ?_
  intro T2 h2 X2 e2 W2 N2 V_b1
  replace V_b1 : Own.VArr Z h2 b1 .long [(.long a), (.long (0 : Int64)), (.long (0 : Int64)), (.long (0 : Int64))] := V_b1
  have sz2 : n0 ≤ h2.size := Nat.le_trans sz1 (Nat.le_of_eq (Wr.size W2).symm)
  refine Own.aload X2 hx (pc := 10) (hb hby at_10) rfl rfl ?_
  refine Own.iconst X2 hx (pc := 12) (1 : Int32) (hb hby at_12) (by decide) ?_
  refine Own.lloadN X2 hx (pc := 13) (hb hby at_13) rfl ?_
  refine Own.lastore X2 hx hZ (pc := 14) e2 V_b1 1 (by decide) (by decide) (of_decide_eq_true rfl) N2 ge_b1 (hb hby at_14) ?_
  intro T3 h3 X3 e3 W3 N3 V_b1
  replace V_b1 : Own.VArr Z h3 b1 .long [(.long a), (.long b), (.long (0 : Int64)), (.long (0 : Int64))] := V_b1
  have sz3 : n0 ≤ h3.size := Nat.le_trans sz2 (Nat.le_of_eq (Wr.size W3).symm)
  refine Own.aload X3 hx (pc := 15) (hb hby at_15) rfl rfl ?_
  refine Own.iconst X3 hx (pc := 17) (2 : Int32) (hb hby at_17) (by decide) ?_
  refine Own.lload X3 hx (pc := 18) (hb hby at_18) rfl ?_
  refine Own.lastore X3 hx hZ (pc := 20) e3 V_b1 2 (by decide) (by decide) (of_decide_eq_true rfl) N3 ge_b1 (hb hby at_20) ?_
  intro T4 h4 X4 e4 W4 N4 V_b1
  replace V_b1 : Own.VArr Z h4 b1 .long [(.long a), (.long b), (.long c1), (.long (0 : Int64))] := V_b1
  have sz4 : n0 ≤ h4.size := Nat.le_trans sz3 (Nat.le_of_eq (Wr.size W4).symm)
  refine Own.aload X4 hx (pc := 21) (hb hby at_21) rfl rfl ?_
  refine Own.iconst X4 hx (pc := 23) (3 : Int32) (hb hby at_23) (by decide) ?_
  refine Own.lload X4 hx (pc := 24) (hb hby at_24) rfl ?_
  refine Own.lastore X4 hx hZ (pc := 26) e4 V_b1 3 (by decide) (by decide) (of_decide_eq_true rfl) N4 ge_b1 (hb hby at_26) ?_
  intro T5 h5 X5 e5 W5 N5 V_b1
  replace V_b1 : Own.VArr Z h5 b1 .long [(.long a), (.long b), (.long c1), (.long d)] := V_b1
  have sz5 : n0 ≤ h5.size := Nat.le_trans sz4 (Nat.le_of_eq (Wr.size W5).symm)
  refine Own.iload X5 hx (pc := 27) (hb hby at_27) rfl ?_
  refine Own.iconst X5 hx (pc := 29) (3 : Int32) (hb hby at_29) (by decide) ?_
  refine Own.iand X5 hx (pc := 30) (hb hby at_30) ?_
  generalize qoff6 : (o &&& (3 : Int32)) = off6
  have p1 := own_off o
  rw [qoff6] at p1
  refine Own.istore X5 hx (pc := 31) #[.val (.long a), .second, .val (.long b), .second, .val (.long c1), .second, .val (.long d), .second, .val (.int o), .val (.int n), .val (.ref b1), .val (.int off6), .unset, .unset, .unset, .unset, .unset] (hb hby at_31) rfl ?_
  refine Own.iload X5 hx (pc := 33) (hb hby at_33) rfl ?_
  refine Own.ldcI X5 hx hZ (pc := 35) hown (Wd hw 1 rfl) (hb hby at_35) ?_
  refine Own.iand X5 hx (pc := 37) (hb hby at_37) ?_
  refine Own.iconst X5 hx (pc := 38) (4 : Int32) (hb hby at_38) (by decide) ?_
  refine Own.iload X5 hx (pc := 39) (hb hby at_39) rfl ?_
  refine Own.isub X5 hx (pc := 41) (hb hby at_41) ?_
  refine Own.irem X5 hx (pc := 42) (hb hby at_42) (own_nz _ p1) ?_
  generalize qnd7 : ((n &&& (2147483647 : Int32)) % ((4 : Int32) - off6)) = nd7
  have p2 := own_node n off6 p1
  rw [qnd7] at p2
  have p3 := own_sum off6 nd7 p1 p2
  refine Own.istore X5 hx (pc := 43) #[.val (.long a), .second, .val (.long b), .second, .val (.long c1), .second, .val (.long d), .second, .val (.int o), .val (.int n), .val (.ref b1), .val (.int off6), .val (.int nd7), .unset, .unset, .unset, .unset] (hb hby at_43) rfl ?_
  refine Own.newobj X5 hx hZ (pc := 45) hown (Wd hw 2 rfl) (Wd hw 3 rfl) (Wd hw 4 rfl) e5 (hb hby at_45) (by decide) (by decide) ?_
  intro T8 h8 b8 g8 X8 e8 Ex8 E_b8 D8
  have ne_b1_b8 : b1 ≠ b8 := Nat.ne_of_lt (g8 ▸ V_b1.lt)
  have V_b1 := V_b1.ext Ex8
  have ge_b8 : n0 ≤ b8 := g8 ▸ sz5
  have sz8 : n0 ≤ h8.size := Nat.le_trans sz5 Ex8.1
  have F_b8_lowered : Fld Z h8 b8 "com/example/hopwise/hopwise/paths/Row" "lowered" "J" (.long (0 : Int64)) := D8 (Or.inl (Wd hw 13 rfl)) (ty := .long) (by decide)
  have F_b8_graph : Fld Z h8 b8 "com/example/hopwise/hopwise/paths/Row" "graph" "Lcom/example/hopwise/hopwise/graph/Graph;" .null := D8 (Or.inr (Wd hw 15 rfl)) (ty := (.object "com/example/hopwise/hopwise/graph/Graph")) (by decide)
  have F_b8_source : Fld Z h8 b8 "com/example/hopwise/hopwise/paths/Row" "source" "I" (.int (0 : Int32)) := D8 (Or.inl (Wd hw 17 rfl)) (ty := .int) (by decide)
  have F_b8_keys : Fld Z h8 b8 "com/example/hopwise/hopwise/paths/Row" "keys" "[J" .null := D8 (Or.inr (Wd hw 19 rfl)) (ty := (.array .long)) (by decide)
  have F_b8_offset : Fld Z h8 b8 "com/example/hopwise/hopwise/paths/Row" "offset" "I" (.int (0 : Int32)) := D8 (Or.inr (Wd hw 21 rfl)) (ty := .int) (by decide)
  have F_b8_pathKeys : Fld Z h8 b8 "com/example/hopwise/hopwise/paths/Row" "pathKeys" "Lcom/example/hopwise/hopwise/paths/PathKeys;" .null := D8 (Or.inr (Wd hw 23 rfl)) (ty := (.object "com/example/hopwise/hopwise/paths/PathKeys")) (by decide)
  refine Own.dup X8 hx (pc := 48) (hb hby at_48) rfl ?_
  refine Own.aconstNull X8 hx (pc := 49) (hb hby at_49) ?_
  refine Own.iload X8 hx (pc := 50) (hb hby at_50) rfl ?_
  refine Own.aload X8 hx (pc := 52) (hb hby at_52) rfl rfl ?_
  refine Own.iload X8 hx (pc := 54) (hb hby at_54) rfl ?_
  refine Own.aconstNull X8 hx (pc := 56) (hb hby at_56) ?_
  refine Own.callSpecial X8 hx hZ (pc := 57) (y := (⟨"com/example/hopwise/hopwise/paths/Row", "<init>", "(Lcom/example/hopwise/hopwise/graph/Graph;I[JILcom/example/hopwise/hopwise/paths/PathKeys;)V"⟩ : MethodName)) rfl hown (Wd hw 5 rfl) (Wd hw 6 rfl) (Wd hw 4 rfl) (Wd hw 7 rfl) (by decide) 1 b8 [.null, (.int o), (.ref b1), (.int off6), .null] [(.ref b8)] (rm1 l Z a0 hw b8 o b1 off6 h8 n0 sz8 E_b8 F_b8_lowered F_b8_graph F_b8_source F_b8_keys F_b8_offset F_b8_pathKeys ge_b8) (by decide) (by decide) e8 (by rw [hml]; rfl) pd2 rfl rfl (Nat.le_of_eq rfl) (hb hby at_57) (by decide) (by decide) ?_
  intro T9 L9 v9 X9 hQ9
  obtain ⟨rfl, Nq9, K9, F_b8_keys', F_b8_offset'⟩ := hQ9
  have e9 : T9.heap = T9.heap := rfl
  have V_b1 := V_b1.keep K9 (ninS ne_b1_b8 nin0)
  have E_b8 := E_b8.keep K9
  have sz9 : n0 ≤ T9.heap.size := Nat.le_trans sz8 K9.1
  have F_b8_keys := F_b8_keys'
  have F_b8_offset := F_b8_offset'
  have N9 := Fr.app N5 Nq9
  show Own.Go p e below _ (T9.setTop (mkF m 60 #[.val (.long a), .second, .val (.long b), .second, .val (.long c1), .second, .val (.long d), .second, .val (.int o), .val (.int n), .val (.ref b1), .val (.int off6), .val (.int nd7), .unset, .unset, .unset, .unset] [(.ref b8)]))
  refine Own.astore X9 hx (pc := 60) #[.val (.long a), .second, .val (.long b), .second, .val (.long c1), .second, .val (.long d), .second, .val (.int o), .val (.int n), .val (.ref b1), .val (.int off6), .val (.int nd7), .val (.ref b8), .unset, .unset, .unset] (hb hby at_60) rfl rfl ?_
  refine Own.aload X9 hx (pc := 62) (hb hby at_62) rfl rfl ?_
  refine Own.iload X9 hx (pc := 64) (hb hby at_64) rfl ?_
  refine Own.callVirtual X9 hx hZ (pc := 66) (y := (⟨"com/example/hopwise/hopwise/paths/Row", "key", "(I)J"⟩ : MethodName)) (z := (⟨"com/example/hopwise/hopwise/paths/Row", "key", "(I)J"⟩ : MethodName)) hown (Wd hw 24 rfl) (Wd hw 25 rfl) (Wd hw 27 rfl) (Wd hw 26 rfl) (Wd hw 4 rfl) (Wd hw 28 rfl) (Wd hw 27 rfl) (by decide) 0 b8 [(.int nd7)] [] E_b8 (rm3 l Z a0 hw b8 nd7 b1 off6 ([(.long a), (.long b), (.long c1), (.long d)]) (if (off6 + nd7) = 0 then a else if (off6 + nd7) = 1 then b else if (off6 + nd7) = 2 then c1 else d) T9.heap n0 sz9 F_b8_keys F_b8_offset V_b1 (own_nn p3) (own_get _ _ _ _ p3)) (by decide) (by decide) e9 (by rw [hml]; rfl) pd3 rfl rfl (Nat.le_of_eq rfl) (hb hby at_66) (by decide) (by decide) ?_
  intro T10 L10 v10 X10 hQ10
  obtain ⟨rfl, Nq10, e10⟩ := hQ10
  have N10 := Fr.app N9 Nq10
  show Own.Go p e below _ (T10.setTop (mkF m 69 #[.val (.long a), .second, .val (.long b), .second, .val (.long c1), .second, .val (.long d), .second, .val (.int o), .val (.int n), .val (.ref b1), .val (.int off6), .val (.int nd7), .val (.ref b8), .unset, .unset, .unset] [(.long (if (off6 + nd7) = 0 then a else if (off6 + nd7) = 1 then b else if (off6 + nd7) = 2 then c1 else d))]))
  refine Own.lstore X10 hx (pc := 69) #[.val (.long a), .second, .val (.long b), .second, .val (.long c1), .second, .val (.long d), .second, .val (.int o), .val (.int n), .val (.ref b1), .val (.int off6), .val (.int nd7), .val (.ref b8), .val (.long (if (off6 + nd7) = 0 then a else if (off6 + nd7) = 1 then b else if (off6 + nd7) = 2 then c1 else d)), .second, .unset] (hb hby at_69) rfl ?_
  refine Own.aload X10 hx (pc := 71) (hb hby at_71) rfl rfl ?_
  refine Own.iconst X10 hx (pc := 73) (0 : Int32) (hb hby at_73) (by decide) ?_
  refine Own.laload X10 hx hZ (pc := 74) e10 V_b1 (v := (.long a)) 0 (by decide) (by decide) rfl (hb hby at_74) ?_
  refine Own.lloadN X10 hx (pc := 75) (hb hby at_75) rfl ?_
  refine Own.lcmp X10 hx (pc := 76) (hb hby at_76) ?_
  refine Own.ifNo X10 hx (pc := 77) (hb hby at_77) (XT.ll_ne_f (rfl : a = a)) ?_
  refine Own.aload X10 hx (pc := 80) (hb hby at_80) rfl rfl ?_
  refine Own.iconst X10 hx (pc := 82) (1 : Int32) (hb hby at_82) (by decide) ?_
  refine Own.laload X10 hx hZ (pc := 83) e10 V_b1 (v := (.long b)) 1 (by decide) (by decide) rfl (hb hby at_83) ?_
  refine Own.lloadN X10 hx (pc := 84) (hb hby at_84) rfl ?_
  refine Own.lcmp X10 hx (pc := 85) (hb hby at_85) ?_
  refine Own.ifNo X10 hx (pc := 86) (hb hby at_86) (XT.ll_ne_f (rfl : b = b)) ?_
  refine Own.aload X10 hx (pc := 89) (hb hby at_89) rfl rfl ?_
  refine Own.iconst X10 hx (pc := 91) (2 : Int32) (hb hby at_91) (by decide) ?_
  refine Own.laload X10 hx hZ (pc := 92) e10 V_b1 (v := (.long c1)) 2 (by decide) (by decide) rfl (hb hby at_92) ?_
  refine Own.lload X10 hx (pc := 93) (hb hby at_93) rfl ?_
  refine Own.lcmp X10 hx (pc := 95) (hb hby at_95) ?_
  refine Own.ifNo X10 hx (pc := 96) (hb hby at_96) (XT.ll_ne_f (rfl : c1 = c1)) ?_
  refine Own.aload X10 hx (pc := 99) (hb hby at_99) rfl rfl ?_
  refine Own.iconst X10 hx (pc := 101) (3 : Int32) (hb hby at_101) (by decide) ?_
  refine Own.laload X10 hx hZ (pc := 102) e10 V_b1 (v := (.long d)) 3 (by decide) (by decide) rfl (hb hby at_102) ?_
  refine Own.lload X10 hx (pc := 103) (hb hby at_103) rfl ?_
  refine Own.lcmp X10 hx (pc := 105) (hb hby at_105) ?_
  refine Own.ifNo X10 hx (pc := 106) (hb hby at_106) (XT.ll_ne_f (rfl : d = d)) ?_
  refine Own.iconst X10 hx (pc := 109) (1 : Int32) (hb hby at_109) (by decide) ?_
  refine Own.goto X10 hx (pc := 110) 114 (hb hby at_110) (by decide) (by decide) ?_
  refine Own.istore X10 hx (pc := 114) #[.val (.long a), .second, .val (.long b), .second, .val (.long c1), .second, .val (.long d), .second, .val (.int o), .val (.int n), .val (.ref b1), .val (.int off6), .val (.int nd7), .val (.ref b8), .val (.long (if (off6 + nd7) = 0 then a else if (off6 + nd7) = 1 then b else if (off6 + nd7) = 2 then c1 else d)), .second, .val (.int (1 : Int32))] (hb hby at_114) rfl ?_
  refine Own.lload X10 hx (pc := 116) (hb hby at_116) rfl ?_
  refine Own.iload X10 hx (pc := 118) (hb hby at_118) rfl ?_
  refine Own.iload X10 hx (pc := 120) (hb hby at_120) rfl ?_
  refine Own.iadd X10 hx (pc := 122) (hb hby at_122) ?_
  refine Own.lloadN X10 hx (pc := 123) (hb hby at_123) rfl ?_
  refine Own.lloadN X10 hx (pc := 124) (hb hby at_124) rfl ?_
  refine Own.lload X10 hx (pc := 125) (hb hby at_125) rfl ?_
  refine Own.lload X10 hx (pc := 127) (hb hby at_127) rfl ?_
  refine Own.callStatic X10 hx hZ (pc := 129) (y := (⟨"com/example/hopwise/hopwise/paths/RowKeyPinLaw", "expected", "(IJJJJ)J"⟩ : MethodName)) hown (Wd hw 29 rfl) (Wd hw 30 rfl) (Wd hw 31 rfl) (Wd hw 32 rfl) (by decide) 2 [(.int (off6 + nd7)), (.long a), (.long b), (.long c1), (.long d)] [(.long (if (off6 + nd7) = 0 then a else if (off6 + nd7) = 1 then b else if (off6 + nd7) = 2 then c1 else d))] (rm4 l Z a0 hw (off6 + nd7) a b c1 d T9.heap n0 sz9 ) (by decide) (by decide) e10 (by rw [hml]; rfl) pd4 rfl rfl (Nat.le_of_eq rfl) (hb hby at_129) (by decide) (by decide) ?_
  intro T11 L11 v11 X11 hQ11
  obtain ⟨rfl, Nq11, e11⟩ := hQ11
  have N11 := Fr.app N10 Nq11
  show Own.Go p e below _ (T11.setTop (mkF m 132 #[.val (.long a), .second, .val (.long b), .second, .val (.long c1), .second, .val (.long d), .second, .val (.int o), .val (.int n), .val (.ref b1), .val (.int off6), .val (.int nd7), .val (.ref b8), .val (.long (if (off6 + nd7) = 0 then a else if (off6 + nd7) = 1 then b else if (off6 + nd7) = 2 then c1 else d)), .second, .val (.int (1 : Int32))] [(.long (if (off6 + nd7) = 0 then a else if (off6 + nd7) = 1 then b else if (off6 + nd7) = 2 then c1 else d)), (.long (if (off6 + nd7) = 0 then a else if (off6 + nd7) = 1 then b else if (off6 + nd7) = 2 then c1 else d))]))
  refine Own.lcmp X11 hx (pc := 132) (hb hby at_132) ?_
  refine Own.ifNo X11 hx (pc := 133) (hb hby at_133) (XT.ll_ne_f (rfl : (if (off6 + nd7) = 0 then a else if (off6 + nd7) = 1 then b else if (off6 + nd7) = 2 then c1 else d) = (if (off6 + nd7) = 0 then a else if (off6 + nd7) = 1 then b else if (off6 + nd7) = 2 then c1 else d))) ?_
  refine Own.iload X11 hx (pc := 136) (hb hby at_136) rfl ?_
  refine Own.ifNo X11 hx (pc := 138) (hb hby at_138) (by decide) ?_
  refine Own.iconst X11 hx (pc := 141) (1 : Int32) (hb hby at_141) (by decide) ?_
  refine Own.goto X11 hx (pc := 142) 146 (hb hby at_142) (by decide) (by decide) ?_
  exact Own.ireturn X11 hx hk hret (by simp) rfl (hb hby at_146) e11 ⟨rfl, N11⟩ (by decide) (by decide)
set_option maxRecDepth 65536 in
set_option maxHeartbeats 40000000 in
theorem comes_1 {Post : Tables → Env → Array Value → State → Outcome → State → Prop} (hpost : ∀ tb e args s v u, (limb_1_1.after args s (.returned v) u = true ∧ limb_1_2.after args s (.returned v) u = true ∧ True) → FrameEnd s (.returned v) u (Jvm.fieldLocs frame_1_writes args s ++ Jvm.arrayLocs frame_1_arrays args s ++ Jvm.staticLocs frame_1_statics s) 16 128 → Post tb e args s (.returned v) u) :
    ArmFor flags0 classFile x code maxLocals ret World_1 tables_1 room_1 Calls_1 rest_1 Pre_1 Post := by
  intro l hfl _ _ p e ha hc hk s m args below hf hA hF happ hP
  obtain ⟨hcalls, hrest, hpre⟩ := hP
  obtain ⟨-, -, -, hnamed, -, -, -, hat⟩ := (Spec.applies_iff hf).mp happ
  obtain ⟨hg, hn⟩ := and_e (Cond.before_iff.mp (show (Jvm.Cond.and given_1 narrow_1).before args s = true from hpre))
  obtain ⟨hcount, r0⟩ := and_e hg
  obtain ⟨g0, r1⟩ := and_e r0
  obtain ⟨g1, r2⟩ := and_e r1
  obtain ⟨g2, r3⟩ := and_e r2
  obtain ⟨g3, r4⟩ := and_e r3
  obtain ⟨g4, r5⟩ := and_e r4
  obtain ⟨w0, w1, w2, w3, w4, w5, rfl⟩ : ∃ w0 w1 w2 w3 w4 w5 : Value, args = #[w0, w1, w2, w3, w4, w5] := by
    have hs : args.size = 6 := by simpa [Cond.value, given_1] using hcount
    obtain ⟨L⟩ := args
    match L, hs with
    | [w0, w1, w2, w3, w4, w5], _ => exact ⟨w0, w1, w2, w3, w4, w5, rfl⟩
  have hw := fun d (hd : d ∈ tables_1) => atoms_spec (ws := Jvm.Cond.code x code maxLocals ret :: tables_1) hat d (List.mem_cons_of_mem _ hd)
  obtain ⟨i0, e0⟩ := isL_v g0
  obtain rfl : w0 = (.long i0) := Option.some.inj e0
  obtain ⟨i1, e1⟩ := isL_v g1
  obtain rfl : w1 = (.long i1) := Option.some.inj e1
  obtain ⟨i2, e2⟩ := isL_v g2
  obtain rfl : w2 = (.long i2) := Option.some.inj e2
  obtain ⟨i3, e3⟩ := isL_v g3
  obtain rfl : w3 = (.long i3) := Option.some.inj e3
  obtain ⟨i4, e4⟩ := is_v g4
  obtain rfl : w4 = (.int i4) := Option.some.inj e4
  obtain ⟨i5, e5⟩ := is_v r5
  obtain rfl : w5 = (.int i5) := Option.some.inj e5
  obtain ⟨n, o, h1, h2, h3, _, L, rfl, ⟨rfl, N⟩, hq⟩ := rm0 l s _ hw i0 i1 i2 i3 i4 i5 s.heap s.heap.size (Nat.le_refl _) p e ha hc hk s m _ below hf ((Spec.applies_iff_loose hf).mp happ).1 ⟨rfl, State.Warmed39.refl s, rfl⟩ trivial
  refine ⟨n, _, h1, h2, h3, hpost _ _ _ _ _ _ ⟨Cond.after_iff.mpr rfl, Cond.after_iff.mpr (eq_i res_at (Term.int_eval (1)) rfl), trivial⟩ ⟨hq.1, hq.2.1, (hq.2.2.sift fun y hy => Or.inr (N y hy)).mono (by decide) (by decide)⟩⟩
theorem main_1_1 : Claimed_1_1 := comes_1 fun _ _ _ _ _ _ h hF => ⟨h.1, hF⟩
theorem main_1_2 : Claimed_1_2 := comes_1 fun _ _ _ _ _ _ h hF => ⟨h.2.1, hF⟩
end Jvm.Pilot.@@N@@
namespace Jvm.Pilot.@@N@@
open Jvm Jvm.ClassFile Sem Op Lib Jvm.Free Jvm.Stand Jvm.Pilot.@@N@@.Jvm.D
/-! MADE BY PROGRAM (witnessworld.py) out of the Statement's table words and the real class files: 11 classes; the members and pool entries that the words name. The judged class is class 1, her method 2. -/
namespace start1
open Jvm.ClassFile
def u (s : String) : CpInfo := .utf8 (stringToUtf16 s)
/-- a pool by its gaps: so many unusable entries, then the entry; so many at the end -/
def gap : Nat → List CpInfo → List CpInfo
  | 0, r => r
  | n + 1, r => .unusable :: gap n r
def poolList (es : List (Nat × CpInfo)) (last : Nat) : List CpInfo := es.foldr (fun e r => gap e.1 (e.2 :: r)) (gap last [])
def pool (es : List (Nat × CpInfo)) (last : Nat) : Array CpInfo := ⟨poolList es last⟩
def fileOf (pool : Array CpInfo) (this : Nat) (attrs : Array Attribute := #[]) (ms : Array MethodInfo := #[]) (fl : Nat := 33) (sup : Nat := 0) (ifs : Array Nat := #[]) (fds : Array FieldInfo := #[]) : ClassFile where
  minorVersion := 0
  majorVersion := 65
  constantPool := pool
  accessFlags := fl
  thisClass := this
  superClass := sup
  interfaces := ifs
  fields := fds
  methods := ms
  attributes := attrs
def plain (name : String) (sup : Option ClassId) : Class where
  name := name
  kind := .ordinary
  loader := none
  accessFlags := 33
  super := sup
  interfaces := #[]
  cf := none
  fields := #[]
  methods := #[]
  instanceTypes := #[]
  staticTypes := #[]
  resolved := #[]
  callSites := []
  init := .initialized
  statics := none
  mirror := none

def pool0 : Array CpInfo := pool [(5, u "<init>"), (0, u "()V"), (1, .class_ 10), (1, u "java/lang/Object")] 113

def k0c0 : Code := { maxStack := 0, maxLocals := 1, code := object_method_1_code, exceptionTable := #[], attributes := #[] }
def k0m0 : Method := { name := "<init>", desc := "()V", sig := { parameters := [], returnType := none }, accessFlags := 1, code := some k0c0 }
/-- java/lang/Object -/
def k0 : Class := { plain "java/lang/Object" none with
  accessFlags := 33
  interfaces := #[]
  cf := some (fileOf pool0 8 #[] #[{ accessFlags := 1, nameIndex := 5, descriptorIndex := 6, attributes := #[] }] 33 0 #[] #[])
  fields := #[]
  methods := #[k0m0]
  instanceTypes := #[]
  staticTypes := #[]
  resolved := Array.replicate 124 none
  statics := none }

def pool1 : Array CpInfo := pool [(2, .class_ 4), (1, u "java/lang/Object"), (0, u "<init>"), (0, u "()V"), (0, .integer 2147483647), (0, .class_ 9), (0, u "com/example/hopwise/hopwise/paths/Row"), (0, .methodref 8 11), (0, .nameAndType 5 12), (0, u "(Lcom/example/hopwise/hopwise/graph/Graph;I[JILcom/example/hopwise/hopwise/paths/PathKeys;)V"), (0, .methodref 8 14), (0, .nameAndType 15 16), (0, u "key"), (0, u "(I)J"), (0, .methodref 18 19), (0, .class_ 20), (0, .nameAndType 21 22), (0, u "com/example/hopwise/hopwise/paths/RowKeyPinLaw"), (0, u "expected"), (0, u "(IJJJJ)J"), (3, u "law"), (0, u "(JJJJII)Z")] 4

def k1m0 : Method := { name := "<init>", desc := "()V", sig := { parameters := [], returnType := none }, accessFlags := 2, code := none }
def k1c1 : Code := { maxStack := 2, maxLocals := 9, code := method_2_code, exceptionTable := #[], attributes := #[] }
def k1m1 : Method := { name := "expected", desc := "(IJJJJ)J", sig := { parameters := [.int, .long, .long, .long, .long], returnType := some .long }, accessFlags := 10, code := some k1c1 }
def k1c2 : Code := { maxStack := 11, maxLocals := 17, code := code, exceptionTable := #[], attributes := #[] }
def k1m2 : Method := { name := "law", desc := "(JJJJII)Z", sig := { parameters := [.long, .long, .long, .long, .int, .int], returnType := some .boolean }, accessFlags := 9, code := some k1c2 }
/-- com/example/hopwise/hopwise/paths/RowKeyPinLaw -/
def k1 : Class := { plain "com/example/hopwise/hopwise/paths/RowKeyPinLaw" (some 0) with
  accessFlags := 49
  interfaces := #[]
  cf := some (fileOf pool1 18 #[] #[{ accessFlags := 2, nameIndex := 5, descriptorIndex := 6, attributes := #[] }, { accessFlags := 10, nameIndex := 21, descriptorIndex := 22, attributes := #[] }, { accessFlags := 9, nameIndex := 26, descriptorIndex := 27, attributes := #[] }] 49 2 #[] #[])
  fields := #[]
  methods := #[k1m0, k1m1, k1m2]
  instanceTypes := #[]
  staticTypes := #[]
  resolved := Array.replicate 32 none
  statics := none }

def pool2 : Array CpInfo := pool [(8, .class_ 10), (1, u "com/example/hopwise/hopwise/paths/Row"), (0, u "<init>"), (0, u "(Lcom/example/hopwise/hopwise/graph/Graph;I[JILcom/example/hopwise/hopwise/paths/PathKeys;)V"), (0, .methodref 14 15), (0, .class_ 16), (0, .nameAndType 11 17), (0, u "java/lang/Object"), (0, u "()V"), (0, .long 18446744073709551615), (1, .fieldref 8 21), (0, .nameAndType 22 23), (0, u "lowered"), (0, u "J"), (0, .fieldref 8 25), (0, .nameAndType 26 27), (0, u "graph"), (0, u "Lcom/example/hopwise/hopwise/graph/Graph;"), (0, .fieldref 8 29), (0, .nameAndType 30 31), (0, u "source"), (0, u "I"), (0, .fieldref 8 33), (0, .nameAndType 34 35), (0, u "keys"), (0, u "[J"), (0, .fieldref 8 37), (0, .nameAndType 38 31), (0, u "offset"), (0, .fieldref 8 40), (0, .nameAndType 41 42), (0, u "pathKeys"), (0, u "Lcom/example/hopwise/hopwise/paths/PathKeys;"), (24, u "key"), (0, u "(I)J"), (65, u "NO_ROUNDS")] 39

def k2c0 : Code := { maxStack := 3, maxLocals := 6, code := prog_44_method_2_code, exceptionTable := #[], attributes := #[] }
def k2m0 : Method := { name := "<init>", desc := "(Lcom/example/hopwise/hopwise/graph/Graph;I[JILcom/example/hopwise/hopwise/paths/PathKeys;)V", sig := { parameters := [(.object "com/example/hopwise/hopwise/graph/Graph"), .int, (.array .long), .int, (.object "com/example/hopwise/hopwise/paths/PathKeys")], returnType := none }, accessFlags := 0, code := some k2c0 }
def k2c1 : Code := { maxStack := 3, maxLocals := 2, code := prog_44_method_11_code, exceptionTable := #[], attributes := #[] }
def k2m1 : Method := { name := "key", desc := "(I)J", sig := { parameters := [.int], returnType := some .long }, accessFlags := 0, code := some k2c1 }
/-- com/example/hopwise/hopwise/paths/Row -/
def k2 : Class := { plain "com/example/hopwise/hopwise/paths/Row" (some 0) with
  accessFlags := 49
  interfaces := #[]
  cf := some (fileOf pool2 8 #[] #[{ accessFlags := 0, nameIndex := 11, descriptorIndex := 12, attributes := #[] }, { accessFlags := 0, nameIndex := 67, descriptorIndex := 68, attributes := #[] }] 49 14 #[] #[{ accessFlags := 18, nameIndex := 26, descriptorIndex := 27, attributes := #[] }, { accessFlags := 2, nameIndex := 30, descriptorIndex := 31, attributes := #[] }, { accessFlags := 16, nameIndex := 34, descriptorIndex := 35, attributes := #[] }, { accessFlags := 16, nameIndex := 38, descriptorIndex := 31, attributes := #[] }, { accessFlags := 16, nameIndex := 41, descriptorIndex := 42, attributes := #[] }, { accessFlags := 24, nameIndex := 134, descriptorIndex := 23, attributes := #[] }, { accessFlags := 2, nameIndex := 22, descriptorIndex := 23, attributes := #[] }])
  fields := #[{ name := "graph", type := (.object "com/example/hopwise/hopwise/graph/Graph"), accessFlags := 18, slot := 0, constantValue := 0 }, { name := "source", type := .int, accessFlags := 2, slot := 1, constantValue := 0 }, { name := "keys", type := (.array .long), accessFlags := 16, slot := 2, constantValue := 0 }, { name := "offset", type := .int, accessFlags := 16, slot := 3, constantValue := 0 }, { name := "pathKeys", type := (.object "com/example/hopwise/hopwise/paths/PathKeys"), accessFlags := 16, slot := 4, constantValue := 0 }, { name := "NO_ROUNDS", type := .long, accessFlags := 24, slot := 0, constantValue := 0 }, { name := "lowered", type := .long, accessFlags := 2, slot := 5, constantValue := 0 }]
  methods := #[k2m0, k2m1]
  instanceTypes := #[(.object "com/example/hopwise/hopwise/graph/Graph"), .int, (.array .long), .int, (.object "com/example/hopwise/hopwise/paths/PathKeys"), .long]
  staticTypes := #[.long]
  resolved := Array.replicate 174 none
  statics := none }

def pool3 : Array CpInfo := pool [(1, u "java/lang/Cloneable"), (0, .class_ 1), (0, u "java/lang/Object"), (0, .class_ 3)] 3

/-- java/lang/Cloneable -/
def k3 : Class := { plain "java/lang/Cloneable" (some 0) with
  accessFlags := 1537
  interfaces := #[]
  cf := some (fileOf pool3 2 #[] #[] 1537 4 #[] #[])
  fields := #[]
  methods := #[]
  instanceTypes := #[]
  staticTypes := #[]
  resolved := Array.replicate 8 none
  statics := none }

def pool4 : Array CpInfo := pool [(1, u "java/io/Serializable"), (0, .class_ 1), (0, u "java/lang/Object"), (0, .class_ 3)] 3

/-- java/io/Serializable -/
def k4 : Class := { plain "java/io/Serializable" (some 0) with
  accessFlags := 1537
  interfaces := #[]
  cf := some (fileOf pool4 2 #[] #[] 1537 4 #[] #[])
  fields := #[]
  methods := #[]
  instanceTypes := #[]
  staticTypes := #[]
  resolved := Array.replicate 8 none
  statics := none }

/-- the primitive byte -/
def k5 : Class := { plain "byte" none with kind := .primitive 'B', accessFlags := 0x411 }
/-- [B -/
def k6 : Class := { plain "[B" (some 0) with kind := .array 5 .byte, interfaces := #[3, 4], accessFlags := 1041 }

/-- the primitive int -/
def k7 : Class := { plain "int" none with kind := .primitive 'I', accessFlags := 0x411 }
/-- [I -/
def k8 : Class := { plain "[I" (some 0) with kind := .array 7 .int, interfaces := #[3, 4], accessFlags := 1041 }

/-- the primitive long -/
def k9 : Class := { plain "long" none with kind := .primitive 'J', accessFlags := 0x411 }
/-- [J -/
def k10 : Class := { plain "[J" (some 0) with kind := .array 9 .long, interfaces := #[3, 4], accessFlags := 1041 }

def heap : Heap := #[]
def classes : Array Class := #[k0, k1, k2, k3, k4, k5, k6, k7, k8, k9, k10]
def interned : List (Array UInt16 × Addr) := []
def slotsUsed : Nat := 0
def theMethod : MethodId := ⟨1, 2⟩
def args0 : Array Value := #[.long 5, .long 6, .long 7, .long 8, .int 1, .int 2]
def aboutOver (below : List Frame) : State where
  vm := { classes := classes, interned := interned.toArray }
  heap := heap
  slotsUsed := slotsUsed
  threads := #[{ frames := .invoking theMethod args0 :: below }]
def below0 : List Frame := [.native { method := ⟨0, 0⟩, args := #[] }]
def about1 : State := aboutOver below0
def p0 : Program := .bare "" "" ""
def e0 : Env := launch0.env 0 0 0
theorem w_frames : about1.frames = Frame.invoking theMethod args0 :: below0 := rfl
set_option maxRecDepth 65536 in
theorem w_args : argsFit about1.vm theMethod args0 = true := by decide +kernel
set_option maxRecDepth 65536 in
theorem w_heap : heapFits about1 = true := by decide +kernel
set_option maxRecDepth 65536 in
theorem w_runnable : about1.curStatus? = some .runnable := by decide +kernel
set_option maxRecDepth 65536 in
theorem w_alone : about1.alone = true := by decide +kernel
set_option maxRecDepth 65536 in
theorem w_named : about1.methodNamed? x = some theMethod := by decide +kernel
set_option maxRecDepth 65536 in
theorem w_hears : about1.hears theMethod below0 = true := by decide +kernel
set_option maxRecDepth 65536 in
theorem w_ripe : about1.ripe theMethod args0 below0 = true := by decide +kernel
theorem w_running : about1.status = .running := rfl
set_option maxRecDepth 65536 in
theorem w_room : about1.hasRoom e0.platform room_1 = true :=
  launch0.hasRoom_least _ room_1 (by decide +kernel) (by decide +kernel) (by decide +kernel) (by decide +kernel) (by decide +kernel) (by decide +kernel)
theorem allAtoms_all (ts : List Jvm.Cond) (a : Array Jvm.Value) (st : Jvm.State) : (allAtoms ts).before a st = ts.all (fun c => c.before a st) := by
  induction ts with
  | nil => rfl
  | cons c t ih =>
    show (Jvm.Cond.and c (allAtoms t)).before a st = _
    rw [Jvm.Cond.before_and, ih, List.all_cons]
def words1 : List Jvm.Cond := Jvm.Cond.code x code maxLocals ret :: tables_1
/-- a 'code' word, met by the world's own term for the bytes: nothing is compared byte by byte -/
theorem code_word {y : MethodName} {bytes : ByteArray} {mx : Nat} {rt : Option FieldType} {a : Array Value} {s : State} {m : MethodId} {meth : Method} {c : Code} (h1 : s.methodNamed? y = some m) (h2 : s.vm.method? m = some meth) (h3 : meth.code = some c) (h4 : c.code = bytes)
    (h5 : (c.maxLocals == mx && c.exceptionTable.isEmpty && decide (c.maxStack ≤ mostOperands) && decide (meth.sig.returnType = rt) && !meth.locks && decide (parseMethodDescriptor y.desc = some meth.sig)) = true) : (Jvm.Cond.code y bytes mx rt).before a s = true := by
  simp only [Bool.and_eq_true, beq_iff_eq, Bool.not_eq_true', decide_eq_true_eq] at h5
  obtain ⟨⟨⟨⟨⟨g1, g2⟩, g3⟩, g4⟩, g5⟩, g6⟩ := h5
  simp [Cond.before, Cond.holds, Cond.value, h1, h2, h3, h4, g1, g2, g3, g4, g5, g6]
def isCode : Jvm.Cond → Bool
  | .code _ _ _ _ => true
  | _ => false
theorem all_split {L : List Jvm.Cond} {P : Jvm.Cond → Bool} (h1 : L.all (fun c => isCode c || P c) = true) (h2 : ∀ c ∈ L.filter isCode, P c = true) : L.all P = true := by
  refine List.all_eq_true.mpr fun c hc => ?_
  have h := List.all_eq_true.mp h1 c hc
  rcases Bool.eq_false_or_eq_true (isCode c) with hi | hi
  · exact h2 c (List.mem_filter.mpr ⟨hc, hi⟩)
  · simpa [hi] using h
set_option maxRecDepth 65536 in
theorem w_c0 : (Jvm.Cond.code x code maxLocals ret).before args0 about1 = true := code_word (m := ⟨1, 2⟩) (meth := k1m2) (c := k1c2) (by decide +kernel) rfl rfl rfl (by decide +kernel)
set_option maxRecDepth 65536 in
theorem w_c1 : (Jvm.Cond.code ({ cls := "com/example/hopwise/hopwise/paths/Row", name := "<init>", desc := "(Lcom/example/hopwise/hopwise/graph/Graph;I[JILcom/example/hopwise/hopwise/paths/PathKeys;)V" } : Jvm.MethodName) prog_44_method_2_code (6 : Nat) (Option.none : Option Jvm.ClassFile.FieldType)).before args0 about1 = true := code_word (m := ⟨2, 0⟩) (meth := k2m0) (c := k2c0) (by decide +kernel) rfl rfl rfl (by decide +kernel)
set_option maxRecDepth 65536 in
theorem w_c2 : (Jvm.Cond.code ({ cls := "java/lang/Object", name := "<init>", desc := "()V" } : Jvm.MethodName) object_method_1_code (1 : Nat) (Option.none : Option Jvm.ClassFile.FieldType)).before args0 about1 = true := code_word (m := ⟨0, 0⟩) (meth := k0m0) (c := k0c0) (by decide +kernel) rfl rfl rfl (by decide +kernel)
set_option maxRecDepth 65536 in
theorem w_c3 : (Jvm.Cond.code ({ cls := "com/example/hopwise/hopwise/paths/Row", name := "key", desc := "(I)J" } : Jvm.MethodName) prog_44_method_11_code (2 : Nat) (Option.some Jvm.ClassFile.FieldType.long)).before args0 about1 = true := code_word (m := ⟨2, 1⟩) (meth := k2m1) (c := k2c1) (by decide +kernel) rfl rfl rfl (by decide +kernel)
set_option maxRecDepth 65536 in
theorem w_c4 : (Jvm.Cond.code ({ cls := "com/example/hopwise/hopwise/paths/RowKeyPinLaw", name := "expected", desc := "(IJJJJ)J" } : Jvm.MethodName) method_2_code (9 : Nat) (Option.some Jvm.ClassFile.FieldType.long)).before args0 about1 = true := code_word (m := ⟨1, 1⟩) (meth := k1m1) (c := k1c1) (by decide +kernel) rfl rfl rfl (by decide +kernel)
def codes1 : List Jvm.Cond := [Jvm.Cond.code x code maxLocals ret, Jvm.Cond.code ({ cls := "com/example/hopwise/hopwise/paths/Row", name := "<init>", desc := "(Lcom/example/hopwise/hopwise/graph/Graph;I[JILcom/example/hopwise/hopwise/paths/PathKeys;)V" } : Jvm.MethodName) prog_44_method_2_code (6 : Nat) (Option.none : Option Jvm.ClassFile.FieldType), Jvm.Cond.code ({ cls := "java/lang/Object", name := "<init>", desc := "()V" } : Jvm.MethodName) object_method_1_code (1 : Nat) (Option.none : Option Jvm.ClassFile.FieldType), Jvm.Cond.code ({ cls := "com/example/hopwise/hopwise/paths/Row", name := "key", desc := "(I)J" } : Jvm.MethodName) prog_44_method_11_code (2 : Nat) (Option.some Jvm.ClassFile.FieldType.long), Jvm.Cond.code ({ cls := "com/example/hopwise/hopwise/paths/RowKeyPinLaw", name := "expected", desc := "(IJJJJ)J" } : Jvm.MethodName) method_2_code (9 : Nat) (Option.some Jvm.ClassFile.FieldType.long)]
set_option maxRecDepth 65536 in
theorem codes_eq : words1.filter isCode = codes1 := rfl
theorem w_codes : ∀ c ∈ words1.filter isCode, c.before args0 about1 = true := by
  rw [codes_eq]
  intro c hc
  simp only [codes1, List.mem_cons, List.not_mem_nil, or_false] at hc
  rcases hc with rfl | rfl | rfl | rfl | rfl
  · exact w_c0
  · exact w_c1
  · exact w_c2
  · exact w_c3
  · exact w_c4
set_option maxRecDepth 65536 in
theorem w_t1 : (words1.take 24).all (fun c => isCode c || c.before args0 about1) = true := by decide +kernel
set_option maxRecDepth 65536 in
theorem w_t2 : (words1.drop 24).all (fun c => isCode c || c.before args0 about1) = true := by decide +kernel
theorem w_tables : (allAtoms (Jvm.Cond.code x code maxLocals ret :: tables_1)).before args0 about1 = true := by
  rw [allAtoms_all]
  show words1.all (fun c => c.before args0 about1) = true
  refine all_split ?_ w_codes
  rw [← List.take_append_drop 24 words1, List.all_append, w_t1, w_t2]
  rfl
set_option maxRecDepth 65536 in
theorem w_case : (Jvm.Cond.and given_1 narrow_1).before args0 about1 = true := by decide +kernel
theorem w_applies : (headSpec (Jvm.Cond.code x code maxLocals ret :: tables_1) room_1).applies x e0.platform about1 = true :=
  (Spec.applies_iff w_frames).mpr ⟨w_running, w_runnable, w_alone, w_named, w_hears, w_ripe, w_room, w_tables⟩
theorem atStart : AtStart classFile x code maxLocals ret World_1 tables_1 room_1 Calls_1 rest_1 Pre_1 launch0 p0 e0 about1 theMethod args0 below0 :=
  ⟨lists_1, trivial, launch0.admits_env _ _ _, launch0.least_env, fairChoices_fair.cas, fairChoices_fair.clock, w_frames, w_args, w_heap, w_applies, trivial, trivial, w_case⟩
end start1
theorem witness_1 : WitnessClaimed_1 := ⟨start1.p0, start1.e0, start1.about1, start1.theMethod, start1.args0, start1.below0, start1.atStart⟩
end Jvm.Pilot.@@N@@
