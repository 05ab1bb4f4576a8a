import JvmDerived
import JvmDerived.Pilot.@@N@@Statement
import JvmDerived.Pilot.@@N@@Code
set_option linter.unusedVariables false
set_option linter.unusedSimpArgs false
@@BLOCK:NumsL.lean.txt@@
namespace Jvm.Pilot.@@N@@
open Jvm Jvm.ClassFile Sem Op Lib Jvm.Free Jvm.Stand Jvm.LawKit Jvm.RoadKit Bundle Jvm.Pilot.@@N@@.Jvm.D
section Own
variable {p : Program} {l : Launch} {e : Env} {R : Room} {s : State} {m : MethodId} {args : Array Value} {below : List Frame} {meth : Method} {c : Code} {Z : State} {a0 : Array Value} {own nm : String} {bs : ByteArray} {ml : Nat} {rt : Option FieldType} {n0 kc ks : Nat} {Q : Option Value → Heap → Prop} {F : Outcome → State → Prop} {T : State} {h : Heap} {k n : Nat} {pc pc' pc2 : Nat} {ls ls' : Array Slot} {st : List Value}
/-- all that a walk knows where it stands -/
def Here (p : Program) (l : Launch) (e : Env) (R : Room) (s : State) (m : MethodId) (args : Array Value) (below : List Frame) (meth : Method) (c : Code) (Z : State) (own nm : String) (bs : ByteArray) (ml : Nat) (rt : Option FieldType) (n0 : Nat) (T : State) (h : Heap) (k n : Nat) : Prop :=
  (p.tables.exec = Jvm.exec ∧ c.code = bs ∧ c.maxLocals = ml ∧ Z.Warmed39 s.vm ∧ s.vm.findClass own = some m.cls ∧ meth.name = nm ∧ meth.sig.returnType = rt ∧ meth.locks = false) ∧ n0 ≤ h.size ∧ T.heap = h ∧ ∃ locs, Stand p l e R s m args below meth c T locs k n ∧ Fr n0 locs
/-- from here the method returns, as Q says -/
def Run (p : Program) (e : Env) (below : List Frame) (F : Outcome → State → Prop) (T : State) (g : JFrame) : Prop :=
  ∃ s₂ o, Steps p.tables e below (T.setTop g) s₂ ∧ s₂.status = .running ∧ Ended s₂ below o ∧ F o s₂
/-- what a body's end owes -/
def Fnl (s : State) (n0 kc ks : Nat) (Q : Option Value → Heap → Prop) (o : Outcome) (s₂ : State) : Prop := ∃ v L, o = .returned v ∧ (Q v s₂.heap ∧ n0 ≤ s₂.heap.size ∧ Fr n0 L) ∧ FrameEnd s o s₂ L kc ks
/-- a body's contract -/
def Con (l : Launch) (Z : State) (y : MethodName) (bs : ByteArray) (ml : Nat) (rt : Option FieldType) (rm : Room) (as : Array Value) (h0 : Heap) (n0 kc ks : Nat) (Q : Option Value → Heap → Prop) : Prop :=
  ∀ ws, MetFree l y (head1 (Jvm.Cond.code y bs ml rt :: ws) rm) (fun a U => a = as ∧ Z.Warmed39 U.vm ∧ U.heap = h0) (fun _ _ _ _ _ => True) (fun _ U o U' => ∃ v L, o = .returned v ∧ (Q v U'.heap ∧ n0 ≤ U'.heap.size ∧ Fr n0 L) ∧ FrameEnd U o U' L kc ks)
theorem Run.of {T' : State} {g g' : JFrame} (q : ∀ t, Steps p.tables e below (T'.setTop g') t → Steps p.tables e below (T.setTop g) t) (r : Run p e below F T' g') : Run p e below F T g := by
  obtain ⟨s₂, o, w, r⟩ := r; exact ⟨s₂, o, q _ w, r⟩
theorem Con.of_body {y : MethodName} {rm : Room} {as : Array Value} (hp : plainName y.cls = true) (hef : ∀ m, entryFrame m as ml = mkF m 0 ls []) (Z0 : n0 ≤ h.size)
    (body : ∀ p e s m below meth c T, Here p l e rm s m as below meth c Z y.cls y.name bs ml rt n0 T h 0 0 → Run p e below (Fnl s n0 kc ks Q) T (mkF m 0 ls [])) : Con l Z y bs ml rt rm as h n0 kc ks Q := by
  intro ws
  refine MetFree.of_bodySF (plainFor_of_name hp) hisR ?_
  intro p e s m args below meth c s₁ Bd hml0 hP hK
  obtain ⟨rfl, hZ, hh⟩ := hP
  have e0 : s₁.heap = h := by rw [← hh, Bd.state]; rfl
  obtain ⟨s₂, o, q, r⟩ := body p e s m below meth c s₁ ⟨⟨Bd.exec, Bd.bytes, hml0, hZ, findClass_of_methodNamed Bd.named, (name_of_methodNamed Bd.named Bd.method).1, Bd.returns, Bd.notSynchronized⟩, Z0, e0, [], Stand.of_body Bd, Fr.nil n0⟩
  exact ⟨s₂, o, castTop (hef m) q, r⟩
theorem Here.sz (X : Here p l e R s m args below meth c Z own nm bs ml rt n0 T h k n) : n0 ≤ h.size := X.2.1
/-- the k-th word of the sheet -/
theorem wd (hw : ∀ d ∈ tables_1, d.before a0 Z = true) (i : Nat) {d : Jvm.Cond} (q : tables_1[i]? = some d) : d.before a0 Z = true := hw _ (List.mem_of_getElem? q)
def cnd : ClassFile.Cond → Int → Int → Prop
  | .eq, x, y => x = y
  | .ne, x, y => ¬ x = y
  | .lt, x, y => x < y
  | .ge, x, y => y ≤ x
  | .gt, x, y => y < x
  | .le, x, y => x ≤ y
theorem cnd_iff (cd : ClassFile.Cond) (x y : Int32) : if_icmp.holds cd x y = true ↔ cnd cd x.toInt y.toInt := by
  cases cd <;> simp [if_icmp.holds, cnd, Int32.lt_iff_toInt_lt, Int32.le_iff_toInt_le, ← Int32.toInt_inj]
theorem r_aloadN (X : Here p l e R s m args below meth c Z own nm bs ml rt n0 T h k n) {i : Fin 4} {a : Addr} (hd : decode bs pc = .ok (.aload_n i, 1)) (hl : ls[i.val]? = some (.val (.ref a))) (hp : pc + 1 = pc') (r : Run p e below F T (mkF m pc' ls (.ref a :: st))) : Run p e below F T (mkF m pc ls st) := by
  obtain ⟨⟨hx, hby, hml, hZ, hown, hnm, hret, hlk⟩, hs0, eT, locs, S, N⟩ := X
  subst hp
  exact Run.of (fun t q => XS.aloadN S.here hx rfl (hb hby hd) hl rfl q) r
theorem r_aload (X : Here p l e R s m args below meth c Z own nm bs ml rt n0 T h k n) {i : Nat} {a : Addr} (hd : decode bs pc = .ok (.aload i, 2)) (hl : ls[i]? = some (.val (.ref a))) (hp : pc + 2 = pc') (r : Run p e below F T (mkF m pc' ls (.ref a :: st))) : Run p e below F T (mkF m pc ls st) := by
  obtain ⟨⟨hx, hby, hml, hZ, hown, hnm, hret, hlk⟩, hs0, eT, locs, S, N⟩ := X
  subst hp
  exact Run.of (fun t q => XS.aload S.here hx rfl (hb hby hd) hl rfl q) r
theorem r_iloadN (X : Here p l e R s m args below meth c Z own nm bs ml rt n0 T h k n) {i : Fin 4} {v : Int32} (hd : decode bs pc = .ok (.iload_n i, 1)) (hl : ls[i.val]? = some (.val (.int v))) (hp : pc + 1 = pc') (r : Run p e below F T (mkF m pc' ls (.int v :: st))) : Run p e below F T (mkF m pc ls st) := by
  obtain ⟨⟨hx, hby, hml, hZ, hown, hnm, hret, hlk⟩, hs0, eT, locs, S, N⟩ := X
  subst hp
  exact Run.of (fun t q => XS.iloadN S.here hx rfl (hb hby hd) hl q) r
theorem r_iload (X : Here p l e R s m args below meth c Z own nm bs ml rt n0 T h k n) {i : Nat} {v : Int32} (hd : decode bs pc = .ok (.iload i, 2)) (hl : ls[i]? = some (.val (.int v))) (hp : pc + 2 = pc') (r : Run p e below F T (mkF m pc' ls (.int v :: st))) : Run p e below F T (mkF m pc ls st) := by
  obtain ⟨⟨hx, hby, hml, hZ, hown, hnm, hret, hlk⟩, hs0, eT, locs, S, N⟩ := X
  subst hp
  exact Run.of (fun t q => XS.iload S.here hx rfl (hb hby hd) hl q) r
theorem r_lloadN (X : Here p l e R s m args below meth c Z own nm bs ml rt n0 T h k n) {i : Fin 4} {v : Int64} (hd : decode bs pc = .ok (.lload_n i, 1)) (hl : ls[i.val]? = some (.val (.long v))) (hp : pc + 1 = pc') (r : Run p e below F T (mkF m pc' ls (.long v :: st))) : Run p e below F T (mkF m pc ls st) := by
  obtain ⟨⟨hx, hby, hml, hZ, hown, hnm, hret, hlk⟩, hs0, eT, locs, S, N⟩ := X
  subst hp
  exact Run.of (fun t q => XT.lloadN S.here hx rfl (hb hby hd) hl q) r
theorem r_lload (X : Here p l e R s m args below meth c Z own nm bs ml rt n0 T h k n) {i : Nat} {v : Int64} (hd : decode bs pc = .ok (.lload i, 2)) (hl : ls[i]? = some (.val (.long v))) (hp : pc + 2 = pc') (r : Run p e below F T (mkF m pc' ls (.long v :: st))) : Run p e below F T (mkF m pc ls st) := by
  obtain ⟨⟨hx, hby, hml, hZ, hown, hnm, hret, hlk⟩, hs0, eT, locs, S, N⟩ := X
  subst hp
  exact Run.of (fun t q => XT.lload S.here hx rfl (hb hby hd) hl q) r
theorem r_istoreN (X : Here p l e R s m args below meth c Z own nm bs ml rt n0 T h k n) {i : Fin 4} {v : Int32} (hd : decode bs pc = .ok (.istore_n i, 1)) (hl : storeLocals ls i.val (.int v) = some ls') (hp : pc + 1 = pc') (r : Run p e below F T (mkF m pc' ls' st)) : Run p e below F T (mkF m pc ls (.int v :: st)) := by
  obtain ⟨⟨hx, hby, hml, hZ, hown, hnm, hret, hlk⟩, hs0, eT, locs, S, N⟩ := X
  subst hp
  exact Run.of (fun t q => XS.istoreN S.here hx rfl (hb hby hd) rfl hl q) r
theorem r_istore (X : Here p l e R s m args below meth c Z own nm bs ml rt n0 T h k n) {i : Nat} {v : Int32} (hd : decode bs pc = .ok (.istore i, 2)) (hl : storeLocals ls i (.int v) = some ls') (hp : pc + 2 = pc') (r : Run p e below F T (mkF m pc' ls' st)) : Run p e below F T (mkF m pc ls (.int v :: st)) := by
  obtain ⟨⟨hx, hby, hml, hZ, hown, hnm, hret, hlk⟩, hs0, eT, locs, S, N⟩ := X
  subst hp
  exact Run.of (fun t q => XS.istore S.here hx rfl (hb hby hd) rfl hl q) r
theorem r_lstoreN (X : Here p l e R s m args below meth c Z own nm bs ml rt n0 T h k n) {i : Fin 4} {v : Int64} (hd : decode bs pc = .ok (.lstore_n i, 1)) (hl : storeLocals ls i.val (.long v) = some ls') (hp : pc + 1 = pc') (r : Run p e below F T (mkF m pc' ls' st)) : Run p e below F T (mkF m pc ls (.long v :: st)) := by
  obtain ⟨⟨hx, hby, hml, hZ, hown, hnm, hret, hlk⟩, hs0, eT, locs, S, N⟩ := X
  subst hp
  exact Run.of (fun t q => XT.lstoreN S.here hx rfl (hb hby hd) rfl hl q) r
theorem r_lstore (X : Here p l e R s m args below meth c Z own nm bs ml rt n0 T h k n) {i : Nat} {v : Int64} (hd : decode bs pc = .ok (.lstore i, 2)) (hl : storeLocals ls i (.long v) = some ls') (hp : pc + 2 = pc') (r : Run p e below F T (mkF m pc' ls' st)) : Run p e below F T (mkF m pc ls (.long v :: st)) := by
  obtain ⟨⟨hx, hby, hml, hZ, hown, hnm, hret, hlk⟩, hs0, eT, locs, S, N⟩ := X
  subst hp
  exact Run.of (fun t q => XT.lstore S.here hx rfl (hb hby hd) rfl hl q) r
theorem r_astoreN (X : Here p l e R s m args below meth c Z own nm bs ml rt n0 T h k n) {i : Fin 4} {v : Addr} (hd : decode bs pc = .ok (.astore_n i, 1)) (hl : storeLocals ls i.val (.ref v) = some ls') (hp : pc + 1 = pc') (r : Run p e below F T (mkF m pc' ls' st)) : Run p e below F T (mkF m pc ls (.ref v :: st)) := by
  obtain ⟨⟨hx, hby, hml, hZ, hown, hnm, hret, hlk⟩, hs0, eT, locs, S, N⟩ := X
  subst hp
  exact Run.of (fun t q => XS.astoreN S.here hx rfl (hb hby hd) rfl rfl hl q) r
theorem r_astore (X : Here p l e R s m args below meth c Z own nm bs ml rt n0 T h k n) {i : Nat} {v : Addr} (hd : decode bs pc = .ok (.astore i, 2)) (hl : storeLocals ls i (.ref v) = some ls') (hp : pc + 2 = pc') (r : Run p e below F T (mkF m pc' ls' st)) : Run p e below F T (mkF m pc ls (.ref v :: st)) := by
  obtain ⟨⟨hx, hby, hml, hZ, hown, hnm, hret, hlk⟩, hs0, eT, locs, S, N⟩ := X
  subst hp
  exact Run.of (fun t q => XS.astore S.here hx rfl (hb hby hd) rfl rfl hl q) r
theorem r_iconst (X : Here p l e R s m args below meth c Z own nm bs ml rt n0 T h k n) {i : Int} {v : Int32} (hd : decode bs pc = .ok (.iconst i, 1)) (hv : Int32.ofInt i = v) (hp : pc + 1 = pc') (r : Run p e below F T (mkF m pc' ls (.int v :: st))) : Run p e below F T (mkF m pc ls st) := by
  obtain ⟨⟨hx, hby, hml, hZ, hown, hnm, hret, hlk⟩, hs0, eT, locs, S, N⟩ := X
  subst hp
  exact Run.of (fun t q => XS.iconst S.here hx rfl (hb hby hd) (by rw [hv]; exact q)) r
theorem r_bipush (X : Here p l e R s m args below meth c Z own nm bs ml rt n0 T h k n) {i : Int} {v : Int32} (hd : decode bs pc = .ok (.bipush i, 2)) (hv : (Int8.ofInt i).toInt32 = v) (hp : pc + 2 = pc') (r : Run p e below F T (mkF m pc' ls (.int v :: st))) : Run p e below F T (mkF m pc ls st) := by
  obtain ⟨⟨hx, hby, hml, hZ, hown, hnm, hret, hlk⟩, hs0, eT, locs, S, N⟩ := X
  subst hp
  exact Run.of (fun t q => XS.bipush S.here hx rfl (hb hby hd) (by rw [hv]; exact q)) r
theorem r_sipush (X : Here p l e R s m args below meth c Z own nm bs ml rt n0 T h k n) {i : Int} {v : Int32} (hd : decode bs pc = .ok (.sipush i, 3)) (hv : (Int16.ofInt i).toInt32 = v) (hp : pc + 3 = pc') (r : Run p e below F T (mkF m pc' ls (.int v :: st))) : Run p e below F T (mkF m pc ls st) := by
  obtain ⟨⟨hx, hby, hml, hZ, hown, hnm, hret, hlk⟩, hs0, eT, locs, S, N⟩ := X
  subst hp
  exact Run.of (fun t q => XS.sipush S.here hx rfl (hb hby hd) (by rw [hv]; exact q)) r
theorem r_lconst (X : Here p l e R s m args below meth c Z own nm bs ml rt n0 T h k n) {i : Fin 2} {v : Int64} (hd : decode bs pc = .ok (.lconst i, 1)) (hv : Int64.ofNat i = v) (hp : pc + 1 = pc') (r : Run p e below F T (mkF m pc' ls (.long v :: st))) : Run p e below F T (mkF m pc ls st) := by
  obtain ⟨⟨hx, hby, hml, hZ, hown, hnm, hret, hlk⟩, hs0, eT, locs, S, N⟩ := X
  subst hp
  exact Run.of (fun t q => XT.lconst S.here hx rfl (hb hby hd) (by rw [hv]; exact q)) r
theorem r_ldcI (X : Here p l e R s m args below meth c Z own nm bs ml rt n0 T h k n) {i : Nat} {v : Int32} (hd : decode bs pc = .ok (.ldc i, 2)) (w : (Jvm.Cond.constant own i v).before a0 Z = true) (hp : pc + 2 = pc') (r : Run p e below F T (mkF m pc' ls (.int v :: st))) : Run p e below F T (mkF m pc ls st) := by
  obtain ⟨⟨hx, hby, hml, hZ, hown, hnm, hret, hlk⟩, hs0, eT, locs, S, N⟩ := X
  subst hp
  exact Run.of (fun t q => S.ldcI hx hown (mvT hZ w) rfl (hb hby hd) q) r
theorem r_ldc2J (X : Here p l e R s m args below meth c Z own nm bs ml rt n0 T h k n) {i : Nat} {v : Int64} (hd : decode bs pc = .ok (.ldc2_w i, 3)) (w : (Jvm.Cond.constantLong own i v).before a0 Z = true) (hp : pc + 3 = pc') (r : Run p e below F T (mkF m pc' ls (.long v :: st))) : Run p e below F T (mkF m pc ls st) := by
  obtain ⟨⟨hx, hby, hml, hZ, hown, hnm, hret, hlk⟩, hs0, eT, locs, S, N⟩ := X
  subst hp
  exact Run.of (fun t q => S.ldc2J hx hown (mvT hZ w) rfl (hb hby hd) q) r
theorem r_iadd (X : Here p l e R s m args below meth c Z own nm bs ml rt n0 T h k n) {x y z : Int32} (hd : decode bs pc = .ok (.iadd, 1)) (hv : x + y = z) (hp : pc + 1 = pc') (r : Run p e below F T (mkF m pc' ls (.int z :: st))) : Run p e below F T (mkF m pc ls (.int y :: .int x :: st)) := by
  obtain ⟨⟨hx, hby, hml, hZ, hown, hnm, hret, hlk⟩, hs0, eT, locs, S, N⟩ := X
  subst hp
  exact Run.of (fun t q => XS.iadd S.here hx rfl (hb hby hd) rfl (by rw [hv]; exact q)) r
theorem r_isub (X : Here p l e R s m args below meth c Z own nm bs ml rt n0 T h k n) {x y z : Int32} (hd : decode bs pc = .ok (.isub, 1)) (hv : x - y = z) (hp : pc + 1 = pc') (r : Run p e below F T (mkF m pc' ls (.int z :: st))) : Run p e below F T (mkF m pc ls (.int y :: .int x :: st)) := by
  obtain ⟨⟨hx, hby, hml, hZ, hown, hnm, hret, hlk⟩, hs0, eT, locs, S, N⟩ := X
  subst hp
  exact Run.of (fun t q => XS.isub S.here hx rfl (hb hby hd) rfl (by rw [hv]; exact q)) r
theorem r_imul (X : Here p l e R s m args below meth c Z own nm bs ml rt n0 T h k n) {x y z : Int32} (hd : decode bs pc = .ok (.imul, 1)) (hv : x * y = z) (hp : pc + 1 = pc') (r : Run p e below F T (mkF m pc' ls (.int z :: st))) : Run p e below F T (mkF m pc ls (.int y :: .int x :: st)) := by
  obtain ⟨⟨hx, hby, hml, hZ, hown, hnm, hret, hlk⟩, hs0, eT, locs, S, N⟩ := X
  subst hp
  exact Run.of (fun t q => XS.imul S.here hx rfl (hb hby hd) rfl (by rw [hv]; exact q)) r
theorem r_iand (X : Here p l e R s m args below meth c Z own nm bs ml rt n0 T h k n) {x y z : Int32} (hd : decode bs pc = .ok (.iand, 1)) (hv : x &&& y = z) (hp : pc + 1 = pc') (r : Run p e below F T (mkF m pc' ls (.int z :: st))) : Run p e below F T (mkF m pc ls (.int y :: .int x :: st)) := by
  obtain ⟨⟨hx, hby, hml, hZ, hown, hnm, hret, hlk⟩, hs0, eT, locs, S, N⟩ := X
  subst hp
  exact Run.of (fun t q => XS.iand S.here hx rfl (hb hby hd) rfl (by rw [hv]; exact q)) r
theorem r_ior (X : Here p l e R s m args below meth c Z own nm bs ml rt n0 T h k n) {x y z : Int32} (hd : decode bs pc = .ok (.ior, 1)) (hv : x ||| y = z) (hp : pc + 1 = pc') (r : Run p e below F T (mkF m pc' ls (.int z :: st))) : Run p e below F T (mkF m pc ls (.int y :: .int x :: st)) := by
  obtain ⟨⟨hx, hby, hml, hZ, hown, hnm, hret, hlk⟩, hs0, eT, locs, S, N⟩ := X
  subst hp
  exact Run.of (fun t q => XT.ior S.here hx rfl (hb hby hd) rfl (by rw [hv]; exact q)) r
theorem r_ixor (X : Here p l e R s m args below meth c Z own nm bs ml rt n0 T h k n) {x y z : Int32} (hd : decode bs pc = .ok (.ixor, 1)) (hv : x ^^^ y = z) (hp : pc + 1 = pc') (r : Run p e below F T (mkF m pc' ls (.int z :: st))) : Run p e below F T (mkF m pc ls (.int y :: .int x :: st)) := by
  obtain ⟨⟨hx, hby, hml, hZ, hown, hnm, hret, hlk⟩, hs0, eT, locs, S, N⟩ := X
  subst hp
  exact Run.of (fun t q => XT.ixor S.here hx rfl (hb hby hd) rfl (by rw [hv]; exact q)) r
theorem r_ishl (X : Here p l e R s m args below meth c Z own nm bs ml rt n0 T h k n) {x y z : Int32} (hd : decode bs pc = .ok (.ishl, 1)) (hv : x <<< (y &&& 31) = z) (hp : pc + 1 = pc') (r : Run p e below F T (mkF m pc' ls (.int z :: st))) : Run p e below F T (mkF m pc ls (.int y :: .int x :: st)) := by
  obtain ⟨⟨hx, hby, hml, hZ, hown, hnm, hret, hlk⟩, hs0, eT, locs, S, N⟩ := X
  subst hp
  exact Run.of (fun t q => XT.ishl S.here hx rfl (hb hby hd) rfl (by rw [hv]; exact q)) r
theorem r_ishr (X : Here p l e R s m args below meth c Z own nm bs ml rt n0 T h k n) {x y z : Int32} (hd : decode bs pc = .ok (.ishr, 1)) (hv : x >>> (y &&& 31) = z) (hp : pc + 1 = pc') (r : Run p e below F T (mkF m pc' ls (.int z :: st))) : Run p e below F T (mkF m pc ls (.int y :: .int x :: st)) := by
  obtain ⟨⟨hx, hby, hml, hZ, hown, hnm, hret, hlk⟩, hs0, eT, locs, S, N⟩ := X
  subst hp
  exact Run.of (fun t q => XT.ishr S.here hx rfl (hb hby hd) rfl (by rw [hv]; exact q)) r
theorem r_iushr (X : Here p l e R s m args below meth c Z own nm bs ml rt n0 T h k n) {x y z : Int32} (hd : decode bs pc = .ok (.iushr, 1)) (hv : XT.ushr x y = z) (hp : pc + 1 = pc') (r : Run p e below F T (mkF m pc' ls (.int z :: st))) : Run p e below F T (mkF m pc ls (.int y :: .int x :: st)) := by
  obtain ⟨⟨hx, hby, hml, hZ, hown, hnm, hret, hlk⟩, hs0, eT, locs, S, N⟩ := X
  subst hp
  exact Run.of (fun t q => XT.iushr S.here hx rfl (hb hby hd) rfl (by rw [hv]; exact q)) r
theorem r_irem (X : Here p l e R s m args below meth c Z own nm bs ml rt n0 T h k n) {x y z : Int32} (hd : decode bs pc = .ok (.irem, 1)) (hy : y ≠ 0) (hv : x % y = z) (hp : pc + 1 = pc') (r : Run p e below F T (mkF m pc' ls (.int z :: st))) : Run p e below F T (mkF m pc ls (.int y :: .int x :: st)) := by
  obtain ⟨⟨hx, hby, hml, hZ, hown, hnm, hret, hlk⟩, hs0, eT, locs, S, N⟩ := X
  subst hp
  exact Run.of (fun t q => iremM S hx rfl (hb hby hd) rfl hy (by rw [hv]; exact q)) r
theorem r_idiv (X : Here p l e R s m args below meth c Z own nm bs ml rt n0 T h k n) {x y z : Int32} (hd : decode bs pc = .ok (.idiv, 1)) (hy : y ≠ 0) (hv : x / y = z) (hp : pc + 1 = pc') (r : Run p e below F T (mkF m pc' ls (.int z :: st))) : Run p e below F T (mkF m pc ls (.int y :: .int x :: st)) := by
  obtain ⟨⟨hx, hby, hml, hZ, hown, hnm, hret, hlk⟩, hs0, eT, locs, S, N⟩ := X
  subst hp
  exact Run.of (fun t q => XS.idiv S.here hx rfl (hb hby hd) rfl hy (by rw [hv]; exact q)) r
theorem r_ladd (X : Here p l e R s m args below meth c Z own nm bs ml rt n0 T h k n) {x y z : Int64} (hd : decode bs pc = .ok (.ladd, 1)) (hv : x + y = z) (hp : pc + 1 = pc') (r : Run p e below F T (mkF m pc' ls (.long z :: st))) : Run p e below F T (mkF m pc ls (.long y :: .long x :: st)) := by
  obtain ⟨⟨hx, hby, hml, hZ, hown, hnm, hret, hlk⟩, hs0, eT, locs, S, N⟩ := X
  subst hp
  exact Run.of (fun t q => XT.ladd S.here hx rfl (hb hby hd) rfl (by rw [hv]; exact q)) r
theorem r_lsub (X : Here p l e R s m args below meth c Z own nm bs ml rt n0 T h k n) {x y z : Int64} (hd : decode bs pc = .ok (.lsub, 1)) (hv : x - y = z) (hp : pc + 1 = pc') (r : Run p e below F T (mkF m pc' ls (.long z :: st))) : Run p e below F T (mkF m pc ls (.long y :: .long x :: st)) := by
  obtain ⟨⟨hx, hby, hml, hZ, hown, hnm, hret, hlk⟩, hs0, eT, locs, S, N⟩ := X
  subst hp
  exact Run.of (fun t q => XT.lsub S.here hx rfl (hb hby hd) rfl (by rw [hv]; exact q)) r
theorem r_lmul (X : Here p l e R s m args below meth c Z own nm bs ml rt n0 T h k n) {x y z : Int64} (hd : decode bs pc = .ok (.lmul, 1)) (hv : x * y = z) (hp : pc + 1 = pc') (r : Run p e below F T (mkF m pc' ls (.long z :: st))) : Run p e below F T (mkF m pc ls (.long y :: .long x :: st)) := by
  obtain ⟨⟨hx, hby, hml, hZ, hown, hnm, hret, hlk⟩, hs0, eT, locs, S, N⟩ := X
  subst hp
  exact Run.of (fun t q => XT.lmul S.here hx rfl (hb hby hd) rfl (by rw [hv]; exact q)) r
theorem r_land (X : Here p l e R s m args below meth c Z own nm bs ml rt n0 T h k n) {x y z : Int64} (hd : decode bs pc = .ok (.land, 1)) (hv : x &&& y = z) (hp : pc + 1 = pc') (r : Run p e below F T (mkF m pc' ls (.long z :: st))) : Run p e below F T (mkF m pc ls (.long y :: .long x :: st)) := by
  obtain ⟨⟨hx, hby, hml, hZ, hown, hnm, hret, hlk⟩, hs0, eT, locs, S, N⟩ := X
  subst hp
  exact Run.of (fun t q => XT.land S.here hx rfl (hb hby hd) rfl (by rw [hv]; exact q)) r
theorem r_lor (X : Here p l e R s m args below meth c Z own nm bs ml rt n0 T h k n) {x y z : Int64} (hd : decode bs pc = .ok (.lor, 1)) (hv : x ||| y = z) (hp : pc + 1 = pc') (r : Run p e below F T (mkF m pc' ls (.long z :: st))) : Run p e below F T (mkF m pc ls (.long y :: .long x :: st)) := by
  obtain ⟨⟨hx, hby, hml, hZ, hown, hnm, hret, hlk⟩, hs0, eT, locs, S, N⟩ := X
  subst hp
  exact Run.of (fun t q => XT.lor S.here hx rfl (hb hby hd) rfl (by rw [hv]; exact q)) r
theorem r_lxor (X : Here p l e R s m args below meth c Z own nm bs ml rt n0 T h k n) {x y z : Int64} (hd : decode bs pc = .ok (.lxor, 1)) (hv : x ^^^ y = z) (hp : pc + 1 = pc') (r : Run p e below F T (mkF m pc' ls (.long z :: st))) : Run p e below F T (mkF m pc ls (.long y :: .long x :: st)) := by
  obtain ⟨⟨hx, hby, hml, hZ, hown, hnm, hret, hlk⟩, hs0, eT, locs, S, N⟩ := X
  subst hp
  exact Run.of (fun t q => XT.lxor S.here hx rfl (hb hby hd) rfl (by rw [hv]; exact q)) r
theorem r_ldiv (X : Here p l e R s m args below meth c Z own nm bs ml rt n0 T h k n) {x y z : Int64} (hd : decode bs pc = .ok (.ldiv, 1)) (hy : y ≠ 0) (hv : x / y = z) (hp : pc + 1 = pc') (r : Run p e below F T (mkF m pc' ls (.long z :: st))) : Run p e below F T (mkF m pc ls (.long y :: .long x :: st)) := by
  obtain ⟨⟨hx, hby, hml, hZ, hown, hnm, hret, hlk⟩, hs0, eT, locs, S, N⟩ := X
  subst hp
  exact Run.of (fun t q => XT.ldiv S.here hx rfl (hb hby hd) rfl hy (by rw [hv]; exact q)) r
theorem r_lrem (X : Here p l e R s m args below meth c Z own nm bs ml rt n0 T h k n) {x y z : Int64} (hd : decode bs pc = .ok (.lrem, 1)) (hy : y ≠ 0) (hv : x - (x / y) * y = z) (hp : pc + 1 = pc') (r : Run p e below F T (mkF m pc' ls (.long z :: st))) : Run p e below F T (mkF m pc ls (.long y :: .long x :: st)) := by
  obtain ⟨⟨hx, hby, hml, hZ, hown, hnm, hret, hlk⟩, hs0, eT, locs, S, N⟩ := X
  subst hp
  exact Run.of (fun t q => XT.lrem S.here hx rfl (hb hby hd) rfl hy (by rw [hv]; exact q)) r
theorem r_lshl (X : Here p l e R s m args below meth c Z own nm bs ml rt n0 T h k n) {x z : Int64} {y : Int32} (hd : decode bs pc = .ok (.lshl, 1)) (hv : x <<< (y.toInt64 &&& 63) = z) (hp : pc + 1 = pc') (r : Run p e below F T (mkF m pc' ls (.long z :: st))) : Run p e below F T (mkF m pc ls (.int y :: .long x :: st)) := by
  obtain ⟨⟨hx, hby, hml, hZ, hown, hnm, hret, hlk⟩, hs0, eT, locs, S, N⟩ := X
  subst hp
  exact Run.of (fun t q => XT.lshl S.here hx rfl (hb hby hd) rfl (by rw [hv]; exact q)) r
theorem r_lshr (X : Here p l e R s m args below meth c Z own nm bs ml rt n0 T h k n) {x z : Int64} {y : Int32} (hd : decode bs pc = .ok (.lshr, 1)) (hv : x >>> (y.toInt64 &&& 63) = z) (hp : pc + 1 = pc') (r : Run p e below F T (mkF m pc' ls (.long z :: st))) : Run p e below F T (mkF m pc ls (.int y :: .long x :: st)) := by
  obtain ⟨⟨hx, hby, hml, hZ, hown, hnm, hret, hlk⟩, hs0, eT, locs, S, N⟩ := X
  subst hp
  exact Run.of (fun t q => XT.lshr S.here hx rfl (hb hby hd) rfl (by rw [hv]; exact q)) r
theorem r_lushr (X : Here p l e R s m args below meth c Z own nm bs ml rt n0 T h k n) {x z : Int64} {y : Int32} (hd : decode bs pc = .ok (.lushr, 1)) (hv : XT.ushrL x y = z) (hp : pc + 1 = pc') (r : Run p e below F T (mkF m pc' ls (.long z :: st))) : Run p e below F T (mkF m pc ls (.int y :: .long x :: st)) := by
  obtain ⟨⟨hx, hby, hml, hZ, hown, hnm, hret, hlk⟩, hs0, eT, locs, S, N⟩ := X
  subst hp
  exact Run.of (fun t q => XT.lushr S.here hx rfl (hb hby hd) rfl (by rw [hv]; exact q)) r
theorem r_i2b (X : Here p l e R s m args below meth c Z own nm bs ml rt n0 T h k n) {x z : Int32} (hd : decode bs pc = .ok (.i2b, 1)) (hv : x.toInt8.toInt32 = z) (hp : pc + 1 = pc') (r : Run p e below F T (mkF m pc' ls (.int z :: st))) : Run p e below F T (mkF m pc ls (.int x :: st)) := by
  obtain ⟨⟨hx, hby, hml, hZ, hown, hnm, hret, hlk⟩, hs0, eT, locs, S, N⟩ := X
  subst hp
  exact Run.of (fun t q => XT.i2b S.here hx rfl (hb hby hd) rfl (by rw [hv]; exact q)) r
theorem r_i2c (X : Here p l e R s m args below meth c Z own nm bs ml rt n0 T h k n) {x z : Int32} (hd : decode bs pc = .ok (.i2c, 1)) (hv : x.toUInt32.toUInt16.toUInt32.toInt32 = z) (hp : pc + 1 = pc') (r : Run p e below F T (mkF m pc' ls (.int z :: st))) : Run p e below F T (mkF m pc ls (.int x :: st)) := by
  obtain ⟨⟨hx, hby, hml, hZ, hown, hnm, hret, hlk⟩, hs0, eT, locs, S, N⟩ := X
  subst hp
  exact Run.of (fun t q => XT.i2c S.here hx rfl (hb hby hd) rfl (by rw [hv]; exact q)) r
theorem r_i2s (X : Here p l e R s m args below meth c Z own nm bs ml rt n0 T h k n) {x z : Int32} (hd : decode bs pc = .ok (.i2s, 1)) (hv : x.toInt16.toInt32 = z) (hp : pc + 1 = pc') (r : Run p e below F T (mkF m pc' ls (.int z :: st))) : Run p e below F T (mkF m pc ls (.int x :: st)) := by
  obtain ⟨⟨hx, hby, hml, hZ, hown, hnm, hret, hlk⟩, hs0, eT, locs, S, N⟩ := X
  subst hp
  exact Run.of (fun t q => XT.i2s S.here hx rfl (hb hby hd) rfl (by rw [hv]; exact q)) r
theorem r_i2l (X : Here p l e R s m args below meth c Z own nm bs ml rt n0 T h k n) {x : Int32} {z : Int64} (hd : decode bs pc = .ok (.i2l, 1)) (hv : x.toInt64 = z) (hp : pc + 1 = pc') (r : Run p e below F T (mkF m pc' ls (.long z :: st))) : Run p e below F T (mkF m pc ls (.int x :: st)) := by
  obtain ⟨⟨hx, hby, hml, hZ, hown, hnm, hret, hlk⟩, hs0, eT, locs, S, N⟩ := X
  subst hp
  exact Run.of (fun t q => XT.i2l S.here hx rfl (hb hby hd) rfl (by rw [hv]; exact q)) r
theorem r_l2i (X : Here p l e R s m args below meth c Z own nm bs ml rt n0 T h k n) {x : Int64} {z : Int32} (hd : decode bs pc = .ok (.l2i, 1)) (hv : x.toInt32 = z) (hp : pc + 1 = pc') (r : Run p e below F T (mkF m pc' ls (.int z :: st))) : Run p e below F T (mkF m pc ls (.long x :: st)) := by
  obtain ⟨⟨hx, hby, hml, hZ, hown, hnm, hret, hlk⟩, hs0, eT, locs, S, N⟩ := X
  subst hp
  exact Run.of (fun t q => XT.l2i S.here hx rfl (hb hby hd) rfl (by rw [hv]; exact q)) r
theorem r_lcmp (X : Here p l e R s m args below meth c Z own nm bs ml rt n0 T h k n) {x y : Int64} {z : Int32} (hd : decode bs pc = .ok (.lcmp, 1)) (hv : XT.cmpL x y = z) (hp : pc + 1 = pc') (r : Run p e below F T (mkF m pc' ls (.int z :: st))) : Run p e below F T (mkF m pc ls (.long y :: .long x :: st)) := by
  obtain ⟨⟨hx, hby, hml, hZ, hown, hnm, hret, hlk⟩, hs0, eT, locs, S, N⟩ := X
  subst hp
  exact Run.of (fun t q => XT.lcmp S.here hx rfl (hb hby hd) rfl (by rw [hv]; exact q)) r
theorem r_dup (X : Here p l e R s m args below meth c Z own nm bs ml rt n0 T h k n) {x : Value} (hd : decode bs pc = .ok (.dup, 1)) (hc : x.category = 1) (hp : pc + 1 = pc') (r : Run p e below F T (mkF m pc' ls (x :: x :: st))) : Run p e below F T (mkF m pc ls (x :: st)) := by
  obtain ⟨⟨hx, hby, hml, hZ, hown, hnm, hret, hlk⟩, hs0, eT, locs, S, N⟩ := X
  subst hp
  exact Run.of (fun t q => XS.dup S.here hx rfl (hb hby hd) rfl hc q) r
theorem r_dupX1 (X : Here p l e R s m args below meth c Z own nm bs ml rt n0 T h k n) {x y : Value} (hd : decode bs pc = .ok (.dup_x1, 1)) (hc : x.category = 1) (hc' : y.category = 1) (hp : pc + 1 = pc') (r : Run p e below F T (mkF m pc' ls (x :: y :: x :: st))) : Run p e below F T (mkF m pc ls (x :: y :: st)) := by
  obtain ⟨⟨hx, hby, hml, hZ, hown, hnm, hret, hlk⟩, hs0, eT, locs, S, N⟩ := X
  subst hp
  exact Run.of (fun t q => XT.dupX1 S.here hx rfl (hb hby hd) rfl hc hc' q) r
theorem r_pop (X : Here p l e R s m args below meth c Z own nm bs ml rt n0 T h k n) {x : Value} (hd : decode bs pc = .ok (.pop, 1)) (hc : x.category = 1) (hp : pc + 1 = pc') (r : Run p e below F T (mkF m pc' ls st)) : Run p e below F T (mkF m pc ls (x :: st)) := by
  obtain ⟨⟨hx, hby, hml, hZ, hown, hnm, hret, hlk⟩, hs0, eT, locs, S, N⟩ := X
  subst hp
  exact Run.of (fun t q => XT.pop S.here hx rfl (hb hby hd) rfl hc q) r
theorem r_iinc (X : Here p l e R s m args below meth c Z own nm bs ml rt n0 T h k n) {i : Nat} {d : Int} {x z : Int32} (hd : decode bs pc = .ok (.iinc i d, 3)) (hl : ls[i]? = some (.val (.int x))) (hv : x + Int32.ofInt d = z) (hl' : storeLocals ls i (.int z) = some ls') (hp : pc + 3 = pc') (r : Run p e below F T (mkF m pc' ls' st)) : Run p e below F T (mkF m pc ls st) := by
  obtain ⟨⟨hx, hby, hml, hZ, hown, hnm, hret, hlk⟩, hs0, eT, locs, S, N⟩ := X
  subst hp
  exact Run.of (fun t q => XS.iinc S.here hx rfl (hb hby hd) hl (by rw [hv]; exact hl') q) r
theorem r_goto (X : Here p l e R s m args below meth c Z own nm bs ml rt n0 T h k n) {o : Int} (hd : decode bs pc = .ok (.goto o, 3)) (ho : 0 ≤ (pc : Int) + o) (hp : ((pc : Int) + o).toNat = pc') (r : Run p e below F T (mkF m pc' ls st)) : Run p e below F T (mkF m pc ls st) := by
  obtain ⟨⟨hx, hby, hml, hZ, hown, hnm, hret, hlk⟩, hs0, eT, locs, S, N⟩ := X
  exact Run.of (fun t q => XS.goto S.here hx rfl rfl (hb hby hd) ho hp q) r
theorem r_icmp (X : Here p l e R s m args below meth c Z own nm bs ml rt n0 T h k n) {cd : ClassFile.Cond} {o : Int} (hd : decode bs pc = .ok (.if_icmp cd o, 3)) (ho : 0 ≤ (pc : Int) + o) (hp : ((pc : Int) + o).toNat = pc') (hp2 : pc + 3 = pc2) {x y : Int32} {a b : Int} (ha : x.toInt = a) (hb' : y.toInt = b) (yes : cnd cd a b → Run p e below F T (mkF m pc' ls st)) (no : ¬ cnd cd a b → Run p e below F T (mkF m pc2 ls st)) : Run p e below F T (mkF m pc ls (.int y :: .int x :: st)) := by
  obtain ⟨⟨hx, hby, hml, hZ, hown, hnm, hret, hlk⟩, hs0, eT, locs, S, N⟩ := X
  subst ha hb' hp2
  by_cases w : cnd cd x.toInt (y : Int32).toInt
  · exact Run.of (fun t q => XS.icmpYes S.here hx rfl rfl (hb hby hd) rfl (((cnd_iff cd x y).mpr w)) ho hp q) (yes w)
  · exact Run.of (fun t q => XS.icmpNo S.here hx rfl (hb hby hd) rfl ((Bool.eq_false_iff.mpr fun z => w ((cnd_iff cd x y).mp z))) q) (no w)
theorem r_icmpY (X : Here p l e R s m args below meth c Z own nm bs ml rt n0 T h k n) {cd : ClassFile.Cond} {o : Int} (hd : decode bs pc = .ok (.if_icmp cd o, 3)) (ho : 0 ≤ (pc : Int) + o) (hp : ((pc : Int) + o).toNat = pc') {x y : Int32} {a b : Int} (ha : x.toInt = a) (hb' : y.toInt = b) (w : cnd cd a b) (r : Run p e below F T (mkF m pc' ls st)) : Run p e below F T (mkF m pc ls (.int y :: .int x :: st)) :=
  r_icmp X hd ho hp rfl ha hb' (fun _ => r) (fun z => absurd w z)
theorem r_icmpN (X : Here p l e R s m args below meth c Z own nm bs ml rt n0 T h k n) {cd : ClassFile.Cond} {o : Int} (hd : decode bs pc = .ok (.if_icmp cd o, 3)) (ho : 0 ≤ (pc : Int) + o) (hp2 : pc + 3 = pc2) {x y : Int32} {a b : Int} (ha : x.toInt = a) (hb' : y.toInt = b) (w : ¬ cnd cd a b) (r : Run p e below F T (mkF m pc2 ls st)) : Run p e below F T (mkF m pc ls (.int y :: .int x :: st)) :=
  r_icmp X hd ho rfl hp2 ha hb' (fun z => absurd z w) (fun _ => r)
theorem r_if (X : Here p l e R s m args below meth c Z own nm bs ml rt n0 T h k n) {cd : ClassFile.Cond} {o : Int} (hd : decode bs pc = .ok (.ifCond cd o, 3)) (ho : 0 ≤ (pc : Int) + o) (hp : ((pc : Int) + o).toNat = pc') (hp2 : pc + 3 = pc2) {x : Int32} {a b : Int} (ha : x.toInt = a) (hb' : (0 : Int32).toInt = b) (yes : cnd cd a b → Run p e below F T (mkF m pc' ls st)) (no : ¬ cnd cd a b → Run p e below F T (mkF m pc2 ls st)) : Run p e below F T (mkF m pc ls (.int x :: st)) := by
  obtain ⟨⟨hx, hby, hml, hZ, hown, hnm, hret, hlk⟩, hs0, eT, locs, S, N⟩ := X
  subst ha hb' hp2
  by_cases w : cnd cd x.toInt (0 : Int32).toInt
  · exact Run.of (fun t q => XS.ifYes S.here hx rfl rfl (hb hby hd) rfl ((if0 _ _).trans ((cnd_iff cd x 0).mpr w)) ho hp q) (yes w)
  · exact Run.of (fun t q => XS.ifNo S.here hx rfl (hb hby hd) rfl ((if0 _ _).trans (Bool.eq_false_iff.mpr fun z => w ((cnd_iff cd x 0).mp z))) q) (no w)
theorem r_ifY (X : Here p l e R s m args below meth c Z own nm bs ml rt n0 T h k n) {cd : ClassFile.Cond} {o : Int} (hd : decode bs pc = .ok (.ifCond cd o, 3)) (ho : 0 ≤ (pc : Int) + o) (hp : ((pc : Int) + o).toNat = pc') {x : Int32} {a b : Int} (ha : x.toInt = a) (hb' : (0 : Int32).toInt = b) (w : cnd cd a b) (r : Run p e below F T (mkF m pc' ls st)) : Run p e below F T (mkF m pc ls (.int x :: st)) :=
  r_if X hd ho hp rfl ha hb' (fun _ => r) (fun z => absurd w z)
theorem r_ifN (X : Here p l e R s m args below meth c Z own nm bs ml rt n0 T h k n) {cd : ClassFile.Cond} {o : Int} (hd : decode bs pc = .ok (.ifCond cd o, 3)) (ho : 0 ≤ (pc : Int) + o) (hp2 : pc + 3 = pc2) {x : Int32} {a b : Int} (ha : x.toInt = a) (hb' : (0 : Int32).toInt = b) (w : ¬ cnd cd a b) (r : Run p e below F T (mkF m pc2 ls st)) : Run p e below F T (mkF m pc ls (.int x :: st)) :=
  r_if X hd ho rfl hp2 ha hb' (fun z => absurd z w) (fun _ => r)
theorem r_acmpN (X : Here p l e R s m args below meth c Z own nm bs ml rt n0 T h k n) {cd : ACond} {o : Int} {x y : Addr} (hd : decode bs pc = .ok (.if_acmp cd o, 3)) (hc : XT.acmp cd (.ref x) (.ref y) = false) (hp : pc + 3 = pc') (r : Run p e below F T (mkF m pc' ls st)) : Run p e below F T (mkF m pc ls (.ref y :: .ref x :: st)) := by
  obtain ⟨⟨hx, hby, hml, hZ, hown, hnm, hret, hlk⟩, hs0, eT, locs, S, N⟩ := X
  subst hp
  exact Run.of (fun t q => XT.acmpNo S.here hx rfl (hb hby hd) rfl rfl rfl hc q) r
theorem r_retN {ft : FieldType} (X : Here p l e R s m args below meth c Z own nm bs ml (some ft) n0 T h k n) (ht : ft = .boolean ∨ ft = .byte ∨ ft = .char ∨ ft = .short) (hd : decode bs pc = .ok (.ireturn, 1)) {z w : Int32} (hz : nar ft z = w) (hQ : Q (some (.int w)) h) (hk : k ≤ kc) (hn : n ≤ ks) : Run p e below (Fnl s n0 kc ks Q) T (mkF m pc ls (.int z :: st)) := by
  obtain ⟨⟨hx, hby, hml, hZ, hown, hnm, hret, hlk⟩, hs0, eT, locs, S, N⟩ := X
  subst hz
  obtain ⟨fs, hr, hrun, hended, hW, hsame⟩ := S.leave (v := some (.int (nar ft z))) (fun w => by rw [hret] at w; cases w)
  refine ⟨_, _, ?_, hrun, hended, _, _, rfl, ⟨?_, ?_, N⟩, ⟨_, rfl⟩, hW, hsame.mono hk hn⟩
  · exact retN S hx hret ht (hb hby hd) hr
  · show Q _ T.heap
    rw [eT]; exact hQ
  · show n0 ≤ T.heap.size
    rw [eT]; exact hs0
theorem r_retI (X : Here p l e R s m args below meth c Z own nm bs ml (some .int) n0 T h k n) (hd : decode bs pc = .ok (.ireturn, 1)) {z : Int32} (hQ : Q (some (.int z)) h) (hk : k ≤ kc) (hn : n ≤ ks) : Run p e below (Fnl s n0 kc ks Q) T (mkF m pc ls (.int z :: st)) := by
  obtain ⟨⟨hx, hby, hml, hZ, hown, hnm, hret, hlk⟩, hs0, eT, locs, S, N⟩ := X
  obtain ⟨fs, hr, hrun, hended, hW, hsame⟩ := S.leave (v := some (.int z)) (fun w => by rw [hret] at w; cases w)
  refine ⟨_, _, ?_, hrun, hended, _, _, rfl, ⟨?_, ?_, N⟩, ⟨_, rfl⟩, hW, hsame.mono hk hn⟩
  · exact retOut S hx hret rfl (Or.inl ⟨rfl, Or.inl rfl, _, rfl⟩) (hb hby hd) hr
  · show Q _ T.heap
    rw [eT]; exact hQ
  · show n0 ≤ T.heap.size
    rw [eT]; exact hs0
theorem r_retL (X : Here p l e R s m args below meth c Z own nm bs ml (some .long) n0 T h k n) (hd : decode bs pc = .ok (.lreturn, 1)) {z : Int64} (hQ : Q (some (.long z)) h) (hk : k ≤ kc) (hn : n ≤ ks) : Run p e below (Fnl s n0 kc ks Q) T (mkF m pc ls (.long z :: st)) := by
  obtain ⟨⟨hx, hby, hml, hZ, hown, hnm, hret, hlk⟩, hs0, eT, locs, S, N⟩ := X
  obtain ⟨fs, hr, hrun, hended, hW, hsame⟩ := S.leave (v := some (.long z)) (fun w => by rw [hret] at w; cases w)
  refine ⟨_, _, ?_, hrun, hended, _, _, rfl, ⟨?_, ?_, N⟩, ⟨_, rfl⟩, hW, hsame.mono hk hn⟩
  · exact retOut S hx hret rfl (Or.inr (Or.inl ⟨rfl, rfl, _, rfl⟩)) (hb hby hd) hr
  · show Q _ T.heap
    rw [eT]; exact hQ
  · show n0 ≤ T.heap.size
    rw [eT]; exact hs0
theorem r_retA {ft : FieldType} (X : Here p l e R s m args below meth c Z own nm bs ml (some ft) n0 T h k n) (ht : ft.isReference = true) (hd : decode bs pc = .ok (.areturn, 1)) {a : Addr} (hQ : Q (some (.ref a)) h) (hk : k ≤ kc) (hn : n ≤ ks) : Run p e below (Fnl s n0 kc ks Q) T (mkF m pc ls (.ref a :: st)) := by
  obtain ⟨⟨hx, hby, hml, hZ, hown, hnm, hret, hlk⟩, hs0, eT, locs, S, N⟩ := X
  obtain ⟨fs, hr, hrun, hended, hW, hsame⟩ := S.leave (v := some (.ref a)) (fun w => by rw [hret] at w; cases w)
  refine ⟨_, _, ?_, hrun, hended, _, _, rfl, ⟨?_, ?_, N⟩, ⟨_, rfl⟩, hW, hsame.mono hk hn⟩
  · exact retOut S hx hret (by cases ft <;> first | rfl | (exfalso; revert ht; decide)) (Or.inr (Or.inr (Or.inr (Or.inr ⟨rfl, ht, rfl⟩)))) (hb hby hd) hr
  · show Q _ T.heap
    rw [eT]; exact hQ
  · show n0 ≤ T.heap.size
    rw [eT]; exact hs0
theorem r_ret (X : Here p l e R s m args below meth c Z own nm bs ml none n0 T h k n) (hd : decode bs pc = .ok (.return_, 1)) (hQ : Q none h) (hk : k ≤ kc) (hn : n ≤ ks) : Run p e below (Fnl s n0 kc ks Q) T (mkF m pc ls []) := by
  obtain ⟨⟨hx, hby, hml, hZ, hown, hnm, hret, hlk⟩, hs0, eT, locs, S, N⟩ := X
  obtain ⟨fs, hr, hrun, hended, hW, hsame⟩ := S.leave (v := none) (fun _ => rfl)
  refine ⟨_, _, ?_, hrun, hended, _, _, rfl, ⟨?_, ?_, N⟩, ⟨_, rfl⟩, hW, hsame.mono hk hn⟩
  · exact S.returnOut hx hret (hb hby hd) hr
  · show Q _ T.heap
    rw [eT]; exact hQ
  · show n0 ≤ T.heap.size
    rw [eT]; exact hs0
/-- the array at a has N components of kind ty; the j-th holds the int f j -/
def Arf (Z : State) (h : Heap) (a : Addr) (ty : FieldType) (N : Nat) (f : Nat → Int32) : Prop := ∃ cl : Cell, Arr Z h a cl ty ∧ cl.slots.size = N ∧ ∀ j, j < N → cl.slots[j]? = some (.int (f j))
def upd (f : Nat → Int32) (i : Nat) (v : Int32) : Nat → Int32 := fun j => if j = i then v else f j
theorem upd_same (f : Nat → Int32) (i : Nat) (v : Int32) : upd f i v i = v := if_pos rfl
theorem upd_ne (f : Nat → Int32) {i j : Nat} (v : Int32) (q : j ≠ i) : upd f i v j = f j := if_neg q
theorem Arf.lt {a : Addr} {ty : FieldType} {N : Nat} {f : Nat → Int32} (A : Arf Z h a ty N f) : a < h.size := by obtain ⟨_, A, -⟩ := A; exact A.lt
theorem Arf.ext {a : Addr} {ty : FieldType} {N : Nat} {f : Nat → Int32} {h' : Heap} (A : Arf Z h a ty N f) (E : Ext h h') : Arf Z h' a ty N f := by obtain ⟨cl, A, r⟩ := A; exact ⟨cl, A.ext E, r⟩
theorem Arf.other {a b : Addr} {ty : FieldType} {N sl : Nat} {f : Nat → Int32} {h' : Heap} {v : Value} (A : Arf Z h b ty N f) (W : Wr h h' a sl v) (q : b ≠ a) : Arf Z h' b ty N f := by obtain ⟨cl, A, r⟩ := A; exact ⟨cl, A.other W q, r⟩
theorem Arf.keep {a : Addr} {ty : FieldType} {N : Nat} {f : Nat → Int32} {h' : Heap} {ws : List Addr} (A : Arf Z h a ty N f) (K : Keep h h' ws) (q : a ∉ ws) : Arf Z h' a ty N f := by obtain ⟨cl, A, r⟩ := A; exact ⟨cl, ⟨K.2.1 a cl A.1 q, A.2⟩, r⟩
theorem Arf.cast {a : Addr} {ty : FieldType} {N : Nat} {f g : Nat → Int32} (A : Arf Z h a ty N f) (q : ∀ j, j < N → f j = g j) : Arf Z h a ty N g := by obtain ⟨cl, A, S, H⟩ := A; exact ⟨cl, A, S, fun j hj => by rw [H j hj, q j hj]⟩
theorem Arf.set {a : Addr} {ty : FieldType} {N i : Nat} {f : Nat → Int32} {h' : Heap} {v : Int32} (A : Arf Z h a ty N f) (W : Wr h h' a i (.int v)) : Arf Z h' a ty N (upd f i v) := by
  obtain ⟨cl, A, S, H⟩ := A
  refine ⟨_, A.same W, by rw [sz_set]; exact S, fun j hj => ?_⟩
  by_cases q : j = i
  · subst q; rw [upd_same]; simp [Cell.setSlot, S, hj]
  · rw [upd_ne f v q]; simp only [Cell.setSlot]; rw [Array.getElem?_setIfInBounds_ne (Ne.symm q)]; exact H j hj
theorem ix_clamp {j : Int32} {i : Nat} (hj : j.toInt = i) : j.toNatClampNeg = i := by simp [Int32.toNatClampNeg, hj]
theorem ix_in {j : Int32} {i N : Nat} (hj : j.toInt = i) (hi : i < N) {cl : Cell} (S : cl.slots.size = N) : ¬ (j < 0 ∨ cl.slots.size ≤ j.toNatClampNeg) := by
  rw [ix_clamp hj, S, Int32.lt_iff_toInt_lt, hj]
  have e0 : (0 : Int32).toInt = 0 := rfl
  omega
theorem r_baload (X : Here p l e R s m args below meth c Z own nm bs ml rt n0 T h k n) {a : Addr} {N i : Nat} {f : Nat → Int32} {j v : Int32} (hd : decode bs pc = .ok (.baload, 1)) (A : Arf Z h a .byte N f) (hj : j.toInt = i) (hi : i < N) (hv : f i = v) (hp : pc + 1 = pc') (r : Run p e below F T (mkF m pc' ls (.int v :: st))) : Run p e below F T (mkF m pc ls (.int j :: .ref a :: st)) := by
  obtain ⟨⟨hx, hby, hml, hZ, hown, hnm, hret, hlk⟩, hs0, eT, locs, S, N⟩ := X
  subst hp hv
  obtain ⟨cl, A, SZ, H⟩ := A
  exact Run.of (fun t q => S.baloadBytes hx (j := j) (by rw [eT]; exact A.1) (State.isArrayOf_alike hZ.alike A.2.1) A.2.2 (ix_in hj hi SZ) (by rw [ix_clamp hj]; exact H i hi) (g := mkF m pc ls (.int j :: .ref a :: st)) rfl rfl (hb hby hd) t q) r
theorem r_caload (X : Here p l e R s m args below meth c Z own nm bs ml rt n0 T h k n) {a : Addr} {N i : Nat} {f : Nat → Int32} {j v : Int32} (hd : decode bs pc = .ok (.caload, 1)) (A : Arf Z h a .char N f) (hj : j.toInt = i) (hi : i < N) (hv : f i = v) (hp : pc + 1 = pc') (r : Run p e below F T (mkF m pc' ls (.int v :: st))) : Run p e below F T (mkF m pc ls (.int j :: .ref a :: st)) := by
  obtain ⟨⟨hx, hby, hml, hZ, hown, hnm, hret, hlk⟩, hs0, eT, locs, S, N⟩ := X
  subst hp hv
  obtain ⟨cl, A, SZ, H⟩ := A
  exact Run.of (fun t q => S.caload hx (j := j) (by rw [eT]; exact A.1) (State.isArrayOf_alike hZ.alike A.2.1) A.2.2 (ix_in hj hi SZ) (by rw [ix_clamp hj]; exact H i hi) (g := mkF m pc ls (.int j :: .ref a :: st)) rfl rfl (hb hby hd) t q) r
theorem r_iaload (X : Here p l e R s m args below meth c Z own nm bs ml rt n0 T h k n) {a : Addr} {N i : Nat} {f : Nat → Int32} {j v : Int32} (hd : decode bs pc = .ok (.iaload, 1)) (A : Arf Z h a .int N f) (hj : j.toInt = i) (hi : i < N) (hv : f i = v) (hp : pc + 1 = pc') (r : Run p e below F T (mkF m pc' ls (.int v :: st))) : Run p e below F T (mkF m pc ls (.int j :: .ref a :: st)) := by
  obtain ⟨⟨hx, hby, hml, hZ, hown, hnm, hret, hlk⟩, hs0, eT, locs, S, N⟩ := X
  subst hp hv
  obtain ⟨cl, A, SZ, H⟩ := A
  exact Run.of (fun t q => S.iaload hx (j := j) (by rw [eT]; exact A.1) (State.isArrayOf_alike hZ.alike A.2.1) A.2.2 (ix_in hj hi SZ) (by rw [ix_clamp hj]; exact H i hi) (g := mkF m pc ls (.int j :: .ref a :: st)) rfl rfl (hb hby hd) t q) r
theorem r_arraylength (X : Here p l e R s m args below meth c Z own nm bs ml rt n0 T h k n) {a : Addr} {ty : FieldType} {N : Nat} {f : Nat → Int32} {v : Int32} (hd : decode bs pc = .ok (.arraylength, 1)) (A : Arf Z h a ty N f) (hv : N.toInt32 = v) (hp : pc + 1 = pc') (r : Run p e below F T (mkF m pc' ls (.int v :: st))) : Run p e below F T (mkF m pc ls (.ref a :: st)) := by
  obtain ⟨⟨hx, hby, hml, hZ, hown, hnm, hret, hlk⟩, hs0, eT, locs, S, N⟩ := X
  subst hp hv
  obtain ⟨cl, A, SZ, H⟩ := A
  subst SZ
  exact Run.of (fun t q => S.arraylength hx (cell := cl) (by rw [eT]; exact A.1) (State.isArrayOf_alike hZ.alike A.2.1) (g := mkF m pc ls (.ref a :: st)) rfl rfl (hb hby hd) t q) r
theorem r_bastore (X : Here p l e R s m args below meth c Z own nm bs ml rt n0 T h k n) {a : Addr} {N i : Nat} {f : Nat → Int32} {j x v : Int32} (hd : decode bs pc = .ok (.bastore, 1)) (A : Arf Z h a .byte N f) (hj : j.toInt = i) (hi : i < N) (ge : n0 ≤ a) (hv : nar .byte x = v) (hp : pc + 1 = pc') (r : ∀ T' h', Here p l e R s m args below meth c Z own nm bs ml rt n0 T' h' k n → Wr h h' a i (.int v) → Arf Z h' a .byte N (upd f i v) → Run p e below F T' (mkF m pc' ls st)) : Run p e below F T (mkF m pc ls (.int x :: .int j :: .ref a :: st)) := by
  obtain ⟨⟨hx, hby, hml, hZ, hown, hnm, hret, hlk⟩, hs0, eT, locs, S, N_⟩ := X
  subst hp hv
  obtain ⟨cl, A, SZ, H⟩ := A
  obtain ⟨T', h', X', e', W, st'⟩ := stB S hx hZ eT A (j := j) (x := x) (ix_in hj hi SZ) (g := mkF m pc ls (.int x :: .int j :: .ref a :: st)) rfl rfl (hb hby hd)
  rw [ix_clamp hj] at W
  refine Run.of (fun t q => st' t q) (r T' h' ⟨⟨hx, hby, hml, hZ, hown, hnm, hret, hlk⟩, ?_, e', _, X', Fr.snoc X' N_ ge⟩ W (Arf.set ⟨cl, A, SZ, H⟩ W))
  rw [W.size]; exact hs0
theorem r_castore (X : Here p l e R s m args below meth c Z own nm bs ml rt n0 T h k n) {a : Addr} {N i : Nat} {f : Nat → Int32} {j x v : Int32} (hd : decode bs pc = .ok (.castore, 1)) (A : Arf Z h a .char N f) (hj : j.toInt = i) (hi : i < N) (ge : n0 ≤ a) (hv : nar .char x = v) (hp : pc + 1 = pc') (r : ∀ T' h', Here p l e R s m args below meth c Z own nm bs ml rt n0 T' h' k n → Wr h h' a i (.int v) → Arf Z h' a .char N (upd f i v) → Run p e below F T' (mkF m pc' ls st)) : Run p e below F T (mkF m pc ls (.int x :: .int j :: .ref a :: st)) := by
  obtain ⟨⟨hx, hby, hml, hZ, hown, hnm, hret, hlk⟩, hs0, eT, locs, S, N_⟩ := X
  subst hp hv
  obtain ⟨cl, A, SZ, H⟩ := A
  obtain ⟨T', h', X', e', W, st'⟩ := stC S hx hZ eT A (j := j) (x := x) (ix_in hj hi SZ) (g := mkF m pc ls (.int x :: .int j :: .ref a :: st)) rfl rfl (hb hby hd)
  rw [ix_clamp hj] at W
  refine Run.of (fun t q => st' t q) (r T' h' ⟨⟨hx, hby, hml, hZ, hown, hnm, hret, hlk⟩, ?_, e', _, X', Fr.snoc X' N_ ge⟩ W (Arf.set ⟨cl, A, SZ, H⟩ W))
  rw [W.size]; exact hs0
theorem r_iastore (X : Here p l e R s m args below meth c Z own nm bs ml rt n0 T h k n) {a : Addr} {N i : Nat} {f : Nat → Int32} {j x v : Int32} (hd : decode bs pc = .ok (.iastore, 1)) (A : Arf Z h a .int N f) (hj : j.toInt = i) (hi : i < N) (ge : n0 ≤ a) (hv : x = v) (hp : pc + 1 = pc') (r : ∀ T' h', Here p l e R s m args below meth c Z own nm bs ml rt n0 T' h' k n → Wr h h' a i (.int v) → Arf Z h' a .int N (upd f i v) → Run p e below F T' (mkF m pc' ls st)) : Run p e below F T (mkF m pc ls (.int x :: .int j :: .ref a :: st)) := by
  obtain ⟨⟨hx, hby, hml, hZ, hown, hnm, hret, hlk⟩, hs0, eT, locs, S, N_⟩ := X
  subst hp hv
  obtain ⟨cl, A, SZ, H⟩ := A
  obtain ⟨T', h', X', e', W, st'⟩ := stI S hx hZ eT A (j := j) (x := x) (ix_in hj hi SZ) (g := mkF m pc ls (.int x :: .int j :: .ref a :: st)) rfl rfl (hb hby hd)
  rw [ix_clamp hj] at W
  refine Run.of (fun t q => st' t q) (r T' h' ⟨⟨hx, hby, hml, hZ, hown, hnm, hret, hlk⟩, ?_, e', _, X', Fr.snoc X' N_ ge⟩ W (Arf.set ⟨cl, A, SZ, H⟩ W))
  rw [W.size]; exact hs0
theorem r_newarray (X : Here p l e R s m args below meth c Z own nm bs ml rt n0 T h k n) {aty : ArrayType} {z : Int32} {N : Nat} (hd : decode bs pc = .ok (.newarray aty, 2)) (w : (Jvm.Cond.arrayClass (newarray.typeOf aty)).before a0 Z = true) (hz : z.toInt = N) (hdf : defaultValue (newarray.typeOf aty) = .int 0) (hb8 : N * 8 ≤ 536870912) (hc : k + 1 ≤ R.cells) (hl : n + N ≤ R.slots) (hp : pc + 2 = pc') (r : ∀ T' h' b, Here p l e R s m args below meth c Z own nm bs ml rt n0 T' h' (k + 1) (n + N) → b = h.size → n0 ≤ b → Ext h h' → Arf Z h' b (newarray.typeOf aty) N (fun _ => 0) → Run p e below F T' (mkF m pc' ls (.ref b :: st))) : Run p e below F T (mkF m pc ls (.int z :: st)) := by
  obtain ⟨⟨hx, hby, hml, hZ, hown, hnm, hret, hlk⟩, hs0, eT, locs, S, N_⟩ := X
  subst hp
  have hneg : ¬ z < 0 := by
    rw [Int32.lt_iff_toInt_lt, hz]
    have e0 : (0 : Int32).toInt = 0 := rfl
    omega
  obtain ⟨T', h', cA, X', e', E, A, st'⟩ := newP S hx hZ w eT (g := mkF m pc ls (.int z :: st)) rfl (hb hby hd) rfl hneg (cap := N) (Nat.le_of_eq (ix_clamp hz)) hb8 hc hl
  refine Run.of (fun t q => st' t q) (r T' h' h.size ⟨⟨hx, hby, hml, hZ, hown, hnm, hret, hlk⟩, Nat.le_trans hs0 E.1, e', _, X', N_⟩ rfl hs0 E ⟨_, A, (sz_new _ _ _).trans (ix_clamp hz), fun j hj => ?_⟩)
  simp [newA, ix_clamp hz, hj, hdf]
theorem r_new (X : Here p l e R s m args below meth c Z own nm bs ml rt n0 T h k n) {C : String} {i sz : Nat} (hd : decode bs pc = .ok (.new i, 3)) (w : (Jvm.Cond.classLink own i C).before a0 Z = true) (wi : (Jvm.Cond.instantiable C sz).before a0 Z = true) (wz : (Jvm.Cond.initialized C).before a0 Z = true) (hc : k + 1 ≤ R.cells) (hl : n + sz ≤ R.slots) (hp : pc + 3 = pc') (r : ∀ T' h' b, Here p l e R s m args below meth c Z own nm bs ml rt n0 T' h' (k + 1) (n + sz) → b = h.size → n0 ≤ b → Ext h h' → Exa Z h' b C → (∀ {O f d : String} {ty : FieldType}, Laid Z a0 C O f d → parseFieldDescriptor d = some ty → Fld Z h' b O f d (defaultValue ty)) → Run p e below F T' (mkF m pc' ls (.ref b :: st))) : Run p e below F T (mkF m pc ls st) := by
  obtain ⟨⟨hx, hby, hml, hZ, hown, hnm, hret, hlk⟩, hs0, eT, locs, S, N⟩ := X
  subst hp
  obtain ⟨T', h', X', e', E, A, D, -, st'⟩ := newO S hx hZ hown w wi wz eT (g := mkF m pc ls st) rfl (hb hby hd) hc hl
  exact Run.of (fun t q => st' t q) (r T' h' h.size ⟨⟨hx, hby, hml, hZ, hown, hnm, hret, hlk⟩, Nat.le_trans hs0 E.1, e', _, X', N⟩ rfl hs0 E A D)
theorem r_getfield (X : Here p l e R s m args below meth c Z own nm bs ml rt n0 T h k n) {R0 f d : String} {i : Nat} {a : Addr} {v : Value} (hd : decode bs pc = .ok (.getfield i, 3)) (w : (Jvm.Cond.fieldLink own i R0 f d).before a0 Z = true) (Ff : Fld Z h a R0 f d v) (hp : pc + 3 = pc') (r : ∀ T', Here p l e R s m args below meth c Z own nm bs ml rt n0 T' h k n → Run p e below F T' (mkF m pc' ls (v :: st))) : Run p e below F T (mkF m pc ls (.ref a :: st)) := by
  obtain ⟨⟨hx, hby, hml, hZ, hown, hnm, hret, hlk⟩, hs0, eT, locs, S, N⟩ := X
  subst hp
  obtain ⟨T', X', e', st'⟩ := getF S hx hZ hown (host := "") (Or.inl w) Via.refl eT Ff (g := mkF m pc ls (.ref a :: st)) rfl rfl (hb hby hd)
  exact Run.of (fun t q => st' t q) (r T' ⟨⟨hx, hby, hml, hZ, hown, hnm, hret, hlk⟩, hs0, e', _, X', N⟩)
theorem r_putfield (X : Here p l e R s m args below meth c Z own nm bs ml rt n0 T h k n) {R0 f d C : String} {i kk : Nat} {a : Addr} {v old : Value} {ty : FieldType} (hd : decode bs pc = .ok (.putfield i, 3)) (w : (Jvm.Cond.fieldLink own i R0 f d).before a0 Z = true) (Ff : Fld Z h a R0 f d old) (E : Exa Z h a C) (L : (Jvm.Cond.lays C R0 f d).before a0 Z = true ∨ ((Jvm.Cond.laysFinal C R0 f d).before a0 Z = true ∧ own = R0 ∧ nm = "<init>")) (wi : (Jvm.Cond.instantiable C kk).before a0 Z = true) (hty : parseFieldDescriptor d = some ty) (hn : narrow ty v = v) (hf : fits ty v = true) (ge : n0 ≤ a) (hp : pc + 3 = pc') (r : ∀ T' h', Here p l e R s m args below meth c Z own nm bs ml rt n0 T' h' k n → Wr h h' a (Jvm.RoadKit.slotOf Z R0 f d) v → Run p e below F T' (mkF m pc' ls st)) : Run p e below F T (mkF m pc ls (v :: .ref a :: st)) := by
  obtain ⟨⟨hx, hby, hml, hZ, hown, hnm, hret, hlk⟩, hs0, eT, locs, S, N⟩ := X
  subst hp
  obtain ⟨T', h', X', e', W, st'⟩ := putF S hx hZ hown (host := "") (Or.inl w) Via.refl eT Ff E (L.imp id fun q => ⟨q.1, q.2.1, hnm.trans q.2.2⟩) wi hty hn hf (g := mkF m pc ls (v :: .ref a :: st)) rfl rfl (hb hby hd)
  refine Run.of (fun t q => st' t q) (r T' h' ⟨⟨hx, hby, hml, hZ, hown, hnm, hret, hlk⟩, ?_, e', _, X', Fr.snoc X' N ge⟩ W)
  rw [W.size]; exact hs0
theorem r_initObject (X : Here p l e R s m args below meth c Z own nm bs ml rt n0 T h k n) {i : Nat} {a : Addr} (hd : decode bs pc = .ok (.invokespecial i, 3)) (w1 : (Jvm.Cond.methodLink own i Lib.objectInit).before a0 Z = true) (w2 : (Jvm.Cond.instanceMethod Lib.objectInit).before a0 Z = true) (w3 : (Jvm.Cond.code Lib.objectInit ⟨#[0xb1]⟩ 1 none).before a0 Z = true) (hsz : ls.size = ml) (hf : 1 ≤ R.frames) {W : Nat} (hW : (st.map fun v => v.category).sum = W) (hl : W + 12 ≤ R.locals) (hp : pc + 3 = pc') (r : ∀ T', Here p l e R s m args below meth c Z own nm bs ml rt n0 T' h k n → Run p e below F T' (mkF m pc' ls st)) : Run p e below F T (mkF m pc ls (.ref a :: st)) := by
  obtain ⟨⟨hx, hby, hml, hZ, hown, hnm, hret, hlk⟩, hs0, eT, locs, S, N⟩ := X
  subst hp
  obtain ⟨T', X', e', st'⟩ := initO S hx hZ hown w1 w2 w3 eT (g := mkF m pc ls (.ref a :: st)) rfl (by rw [hml]; exact hsz) rfl (hb hby hd) hf (W := W) (by show 2 * 0 + _ ≤ _; rw [hW]; omega) hl
  exact Run.of (fun t q => st' t q) (r T' ⟨⟨hx, hby, hml, hZ, hown, hnm, hret, hlk⟩, hs0, e', _, X', N⟩)
theorem r_callS (X : Here p l e R s m args below meth c Z own nm bs ml rt n0 T h k n) {y : MethodName} {i : Nat} {bs' : ByteArray} {ml' : Nat} {rt' : Option FieldType} {rm : Room} {Q' : Option Value → Heap → Prop} {ps : List FieldType} {rr : Option FieldType} {argsL rest : List Value} {W : Nat} (hd : decode bs pc = .ok (.invokestatic i, 3)) (C : Con l Z y bs' ml' rt' rm argsL.toArray h n0 rm.cells rm.slots Q') (w1 : (Jvm.Cond.methodLink own i y).before a0 Z = true) (w2 : (Jvm.Cond.static y).before a0 Z = true) (w3 : (Jvm.Cond.initialized y.cls).before a0 Z = true) (w4 : (Jvm.Cond.code y bs' ml' rt').before a0 Z = true) (hy : y.cls ≠ "java/lang/invoke/MethodHandle" ∧ y.cls ≠ "java/lang/invoke/VarHandle") (hst : st = argsL.reverse ++ rest) (hsz : ls.size = ml) (hpd : parseMethodDescriptor y.desc = some ⟨ps, rr⟩) (hlen : argsL.length = ps.length) (hW : (rest.map fun v => v.category).sum = W) (hf : rm.frames + 1 ≤ R.frames) (hl : W + (ml' + 11) + rm.locals ≤ R.locals) (hc : k + rm.cells ≤ R.cells) (hs : n + rm.slots ≤ R.slots) (hp : pc + 3 = pc') (r : ∀ v T' h', Here p l e R s m args below meth c Z own nm bs ml rt n0 T' h' (k + rm.cells) (n + rm.slots) → Q' v h' → Run p e below F T' (mkF m pc' ls (v.toList ++ rest))) : Run p e below F T (mkF m pc ls st) := by
  obtain ⟨⟨hx, hby, hml, hZ, hown, hnm, hret, hlk⟩, hs0, eT, locs, S, N⟩ := X
  subst hp hst
  obtain ⟨v, _, B, -, X', ⟨L, hQ, l1, l2, l3⟩, st'⟩ := Jvm.LawKit.callS S hx (y := y) hown (mvT hZ w1) (mvT hZ w2) (mvT hZ w3) (mvT hZ w4) hy (backOf (W := W) (Q := fun v hh L => Q' v hh ∧ n0 ≤ hh.size ∧ Fr n0 L) (C []) hZ w4 w3 hf hl) (g := mkF m pc ls (argsL.reverse ++ rest)) rfl (by rw [hml]; exact hsz) (argsL := argsL) (rest := rest) (lenOf hpd hlen) rfl (by show 2 * 0 + _ ≤ _; rw [hW]; omega) (hb hby hd) (fun _ _ => ⟨rfl, eT, hc, hs⟩)
  obtain ⟨hQ, hs1, hF⟩ := hQ
  have X'' : Here p l e R s m args below meth c Z own nm bs ml rt n0 B.U B.U.heap (k + rm.cells) (n + rm.slots) := ⟨⟨hx, hby, hml, hZ, hown, hnm, hret, hlk⟩, hs1, rfl, B.locs, by rw [l2, l3] at X'; exact X', by rw [l1]; exact Fr.app N hF⟩
  exact Run.of (fun t q => st' t q) (r v B.U B.U.heap X'' hQ)
theorem r_init (X : Here p l e R s m args below meth c Z own nm bs ml rt n0 T h k n) {y : MethodName} {i : Nat} {bs' : ByteArray} {ml' : Nat} {rm : Room} {Q' : Option Value → Heap → Prop} {ps : List FieldType} {rr : Option FieldType} {argsL rest : List Value} {W : Nat} {a : Addr} (hd : decode bs pc = .ok (.invokespecial i, 3)) (C : Con l Z y bs' ml' none rm (.ref a :: argsL).toArray h n0 rm.cells rm.slots Q') (hy1 : y.name = "<init>") (w1 : (Jvm.Cond.methodLink own i y).before a0 Z = true) (w2 : (Jvm.Cond.instanceMethod y).before a0 Z = true) (w3 : (Jvm.Cond.initialized y.cls).before a0 Z = true) (w4 : (Jvm.Cond.code y bs' ml' none).before a0 Z = true) (hy : y.cls ≠ "java/lang/invoke/MethodHandle" ∧ y.cls ≠ "java/lang/invoke/VarHandle") (hst : st = argsL.reverse ++ .ref a :: rest) (hsz : ls.size = ml) (hpd : parseMethodDescriptor y.desc = some ⟨ps, rr⟩) (hlen : argsL.length = ps.length) (hW : (rest.map fun v => v.category).sum = W) (hf : rm.frames + 1 ≤ R.frames) (hl : W + (ml' + 11) + rm.locals ≤ R.locals) (hc : k + rm.cells ≤ R.cells) (hs : n + rm.slots ≤ R.slots) (hp : pc + 3 = pc') (r : ∀ v T' h', Here p l e R s m args below meth c Z own nm bs ml rt n0 T' h' (k + rm.cells) (n + rm.slots) → Q' v h' → Run p e below F T' (mkF m pc' ls (v.toList ++ rest))) : Run p e below F T (mkF m pc ls st) := by
  obtain ⟨⟨hx, hby, hml, hZ, hown, hnm, hret, hlk⟩, hs0, eT, locs, S, N⟩ := X
  subst hp hst
  obtain ⟨v, _, B, -, X', ⟨L, hQ, l1, l2, l3⟩, st'⟩ := S.specialBack hx (y := y) hy1 hown (mvT hZ w1) (mvT hZ w2) (mvT hZ w4) hy (backOf (W := W) (Q := fun v hh L => Q' v hh ∧ n0 ≤ hh.size ∧ Fr n0 L) (C []) hZ w4 w3 hf hl) (g := mkF m pc ls (argsL.reverse ++ .ref a :: rest)) rfl (by rw [hml]; exact hsz) (Steps.refl _) (a := a) (argsL := argsL) (rest := rest) (lenOf hpd hlen) rfl (by show 2 * 0 + _ ≤ _; rw [hW]; omega) (hb hby hd) (fun _ _ => ⟨rfl, eT, hc, hs⟩)
  obtain ⟨hQ, hs1, hF⟩ := hQ
  have X'' : Here p l e R s m args below meth c Z own nm bs ml rt n0 B.U B.U.heap (k + rm.cells) (n + rm.slots) := ⟨⟨hx, hby, hml, hZ, hown, hnm, hret, hlk⟩, hs1, rfl, B.locs, by rw [l2, l3] at X'; exact X', by rw [l1]; exact Fr.app N hF⟩
  exact Run.of (fun t q => st'.trans q) (r v B.U B.U.heap X'' hQ)
theorem r_callV (X : Here p l e R s m args below meth c Z own nm bs ml rt n0 T h k n) {y : MethodName} {i : Nat} {bs' : ByteArray} {ml' : Nat} {rt' : Option FieldType} {rm : Room} {Q' : Option Value → Heap → Prop} {ps : List FieldType} {rr : Option FieldType} {argsL rest : List Value} {W : Nat} {C0 : String} {a : Addr} (hd : decode bs pc = .ok (.invokevirtual i, 3)) (C : Con l Z y bs' ml' rt' rm (.ref a :: argsL).toArray h n0 rm.cells rm.slots Q') (E : Exa Z h a C0) (w1 : (Jvm.Cond.methodLink own i y).before a0 Z = true) (w2 : (Jvm.Cond.declares y).before a0 Z = true) (w5 : (Jvm.Cond.selects C0 y y).before a0 Z = true) (w6 : (Jvm.Cond.instanceMethod y).before a0 Z = true) (w3 : (Jvm.Cond.initialized y.cls).before a0 Z = true) (w4 : (Jvm.Cond.code y bs' ml' rt').before a0 Z = true) (hy : y.cls ≠ "java/lang/invoke/MethodHandle" ∧ y.cls ≠ "java/lang/invoke/VarHandle") (hst : st = argsL.reverse ++ .ref a :: rest) (hsz : ls.size = ml) (hpd : parseMethodDescriptor y.desc = some ⟨ps, rr⟩) (hlen : argsL.length = ps.length) (hW : (rest.map fun v => v.category).sum = W) (hf : rm.frames + 1 ≤ R.frames) (hl : W + (ml' + 11) + rm.locals ≤ R.locals) (hc : k + rm.cells ≤ R.cells) (hs : n + rm.slots ≤ R.slots) (hp : pc + 3 = pc') (r : ∀ v T' h', Here p l e R s m args below meth c Z own nm bs ml rt n0 T' h' (k + rm.cells) (n + rm.slots) → Q' v h' → Run p e below F T' (mkF m pc' ls (v.toList ++ rest))) : Run p e below F T (mkF m pc ls st) := by
  obtain ⟨⟨hx, hby, hml, hZ, hown, hnm, hret, hlk⟩, hs0, eT, locs, S, N⟩ := X
  subst hp hst
  obtain ⟨cq, kq, qa, qb, qc⟩ := isOf hZ eT E
  obtain ⟨v, _, B, -, X', ⟨L, hQ, l1, l2, l3⟩, st'⟩ := S.virtualBack hx (y := y) (z := y) hown (mvT hZ w1) (mvT hZ w2) (notFace_of_selects (args := #[]) (mvT hZ w5)) (mvT hZ w5) (mvT hZ w6) hy (backOf (W := W) (Q := fun v hh L => Q' v hh ∧ n0 ≤ hh.size ∧ Fr n0 L) (C []) hZ w4 w3 hf hl) qa qc (g := mkF m pc ls (argsL.reverse ++ .ref a :: rest)) rfl (by rw [hml]; exact hsz) (Steps.refl _) (argsL := argsL) (rest := rest) (lenOf hpd hlen) rfl (by show 2 * 0 + _ ≤ _; rw [hW]; omega) (hb hby hd) (fun _ _ => ⟨rfl, eT, hc, hs⟩)
  obtain ⟨hQ, hs1, hF⟩ := hQ
  have X'' : Here p l e R s m args below meth c Z own nm bs ml rt n0 B.U B.U.heap (k + rm.cells) (n + rm.slots) := ⟨⟨hx, hby, hml, hZ, hown, hnm, hret, hlk⟩, hs1, rfl, B.locs, by rw [l2, l3] at X'; exact X', by rw [l1]; exact Fr.app N hF⟩
  exact Run.of (fun t q => st'.trans q) (r v B.U B.U.heap X'' hQ)
end Own
/-- an int by its bits' number -/
theorem n_bits (x : Int32) : x.toInt = ((x.toBitVec.toNat : Int) + 2147483648) % 4294967296 - 2147483648 := by
  have e : x.toInt = x.toBitVec.toInt := rfl
  have hb := x.toBitVec.isLt
  rw [e, BitVec.toInt_eq_toNat_cond]
  split <;> omega
theorem n_i2b (x : Int32) : (x.toInt8.toInt32).toInt = (x.toInt + 128) % 256 - 128 := by
  rw [Int8.toInt_toInt32, Int32.toInt_toInt8, Int.bmod_def]; omega
theorem n_i2c (x : Int32) : (x.toUInt32.toUInt16.toUInt32.toInt32).toInt = x.toInt % 65536 := by
  have h : (x.toUInt32.toUInt16.toUInt32.toInt32).toBitVec.toNat = x.toBitVec.toNat % 65536 := by
    show ((x.toBitVec.setWidth 16).setWidth 32).toNat = _
    rw [BitVec.toNat_setWidth, BitVec.toNat_setWidth]; omega
  have h1 := n_bits (x.toUInt32.toUInt16.toUInt32.toInt32)
  have h2 := n_bits x
  have h3 := x.toBitVec.isLt
  omega
theorem n_narC (x : Int32) : nar .char x.toUInt32.toUInt16.toUInt32.toInt32 = x.toUInt32.toUInt16.toUInt32.toInt32 := by
  apply Int32.toInt_inj.mp
  show (Int32.toUInt32 _).toUInt16.toUInt32.toInt32.toInt = _
  rw [n_i2c, n_i2c]; omega
theorem n_narB (x : Int32) : nar .byte x.toInt8.toInt32 = x.toInt8.toInt32 := by
  apply Int32.toInt_inj.mp
  show (Int32.toInt8 _).toInt32.toInt = _
  rw [n_i2b, n_i2b]; omega
theorem n_add {x y : Int32} {a b : Int} (hx : x.toInt = a) (hy : y.toInt = b) (h1 : -2147483648 ≤ a + b) (h2 : a + b ≤ 2147483647) : (x + y).toInt = a + b := by
  subst hx hy; exact Jvm.Kit.i32_add (by omega) (by omega)
theorem n_sub {x y : Int32} {a b : Int} (hx : x.toInt = a) (hy : y.toInt = b) (h1 : -2147483648 ≤ a - b) (h2 : a - b ≤ 2147483647) : (x - y).toInt = a - b := by
  subst hx hy; exact Jvm.Kit.i32_sub (by omega) (by omega)
theorem n_nat {x : Int32} {n : Nat} (h : x.toInt = n) : x = Int32.ofNat n := by
  have a := x.toInt_lt
  exact Int32.toInt_inj.mp (by rw [h, Int32.toInt_ofNat_of_lt (by omega)])
theorem n_max (x : Int32) : 0 ≤ (x &&& (2147483647 : Int32)).toInt := by
  have : (x &&& (2147483647 : Int32)).toInt = x.toInt % 2 ^ 31 := Jvm.Kit.i32_mask x 2147483647 (k := 31) (by decide) (by decide)
  omega
theorem n_bitsL (x : Int64) : x.toInt = ((x.toBitVec.toNat : Int) + 9223372036854775808) % 18446744073709551616 - 9223372036854775808 := by
  have e : x.toInt = x.toBitVec.toInt := rfl
  have hb := x.toBitVec.isLt
  rw [e, BitVec.toInt_eq_toNat_cond]
  split <;> omega
theorem n_ushr (x y : Int32) (s : Nat) (hs : ((y &&& 31).toUInt32).toNat = s) (h1 : s < 32) : ((XT.ushr x y).toBitVec.toNat : Nat) = x.toBitVec.toNat / 2 ^ s := by
  show ((x.toUInt32 >>> (y &&& 31).toUInt32).toInt32).toBitVec.toNat = _
  simp only [UInt32.toBitVec_toInt32, UInt32.toBitVec_shiftRight, Int32.toBitVec_toUInt32]
  simp [BitVec.toNat_ushiftRight, Nat.shiftRight_eq_div_pow]
  have h2 : y.toBitVec.toNat &&& 31 = s := hs
  rw [h2, Nat.mod_eq_of_lt h1]
theorem n_natL (x : Int64) (h : 0 ≤ x.toInt) : (x.toBitVec.toNat : Int) = x.toInt := by
  have := n_bitsL x; have hb := x.toBitVec.isLt; omega
theorem n_cmp (x y : Int64) : (XT.cmpL x y).toInt = 0 ↔ x.toInt = y.toInt := by
  unfold XT.cmpL
  by_cases h : y < x
  · rw [if_pos h]
    rw [Int64.lt_iff_toInt_lt] at h
    constructor
    · intro q; exact absurd q (by decide)
    · intro q; omega
  · rw [if_neg h]
    by_cases h2 : x = y
    · rw [if_pos h2, h2]; exact ⟨fun _ => rfl, fun _ => rfl⟩
    · rw [if_neg h2]
      constructor
      · intro q; exact absurd q (by decide)
      · intro q; exact absurd (Int64.toInt_inj.mp q) h2
theorem n_i2lN (y : Int32) (s : Nat) (hs : y.toInt = s) : y.toInt64.toBitVec.toNat = s := by
  have h1 : y.toInt64.toInt = s := by rw [Int32.toInt_toInt64, hs]
  have := n_natL y.toInt64 (by omega)
  omega
theorem n_sh63 (y : Int32) (s : Nat) (hs : y.toInt = s) (h : s < 64) : (y.toInt64 &&& 63).toBitVec.toNat = s := by
  have h1 := n_i2lN y s hs
  have h2 : (y.toInt64 &&& (63 : Int64)).toBitVec.toNat = y.toInt64.toBitVec.toNat &&& 63 := by rw [Int64.toBitVec_and, BitVec.toNat_and]; rfl
  rw [h2, h1, show (63 : Nat) = 2 ^ 6 - 1 from rfl, Nat.and_two_pow_sub_one_eq_mod]
  omega
theorem n_ushrL (x : Int64) (y : Int32) (s : Nat) (hs : y.toInt = s) (h : s < 64) : (XT.ushrL x y).toBitVec.toNat = x.toBitVec.toNat / 2 ^ s := by
  have h1 := n_sh63 y s hs h
  have h2 : (y.toInt64.toUInt64 &&& Int64.toUInt64 63).toNat = s := h1
  show ((x.toUInt64 >>> (y.toInt64.toUInt64 &&& Int64.toUInt64 63)).toInt64).toBitVec.toNat = _
  simp only [UInt64.toBitVec_toInt64, UInt64.toBitVec_shiftRight, Int64.toBitVec_toUInt64]
  simp [BitVec.toNat_ushiftRight, Nat.shiftRight_eq_div_pow]
  have h3 : (y.toInt64.toUInt64 &&& Int64.toUInt64 63).toBitVec.toNat = s := h2
  simp at h3
  rw [h3, Nat.mod_eq_of_lt h]
theorem n_shlL (x : Int64) (y : Int32) (s : Nat) (hs : y.toInt = s) (h : s < 64) : (x <<< (y.toInt64 &&& 63)).toBitVec.toNat = (x.toBitVec.toNat * 2 ^ s) % 2 ^ 64 := by
  have h1 := n_sh63 y s hs h
  have h2 : (((y.toInt64 &&& 63) : Int64).toBitVec.smod 64).toNat = s := by
    have e : ((y.toInt64 &&& 63) : Int64).toBitVec = BitVec.ofNat 64 s := by
      apply BitVec.eq_of_toNat_eq; rw [h1, BitVec.toNat_ofNat, Nat.mod_eq_of_lt (by omega)]
    rw [e]
    have t : ∀ k : Fin 64, ((BitVec.ofNat 64 k.val).smod 64).toNat = k.val := by decide +kernel
    exact t ⟨s, h⟩
  show (x.toBitVec <<< (((y.toInt64 &&& 63) : Int64).toBitVec.smod 64)).toNat = _
  rw [BitVec.shiftLeft_eq', BitVec.toNat_shiftLeft, h2, Nat.shiftLeft_eq]
theorem n_orL (x y : Int64) (k a b : Nat) (hx : x.toBitVec.toNat = a) (ha : a < 2 ^ k) (hy : y.toBitVec.toNat = b * 2 ^ k) : (x ||| y).toBitVec.toNat = a + b * 2 ^ k := by
  rw [Int64.toBitVec_or, BitVec.toNat_or, hx, hy, Nat.or_comm, ← Nat.shiftLeft_eq, ← Nat.shiftLeft_add_eq_or_of_lt ha]; omega
theorem n_m128 (x : Int64) : (x &&& (-128 : Int64)).toBitVec.toNat = x.toBitVec.toNat / 128 * 128 := by
  have e : (-128 : Int64).toBitVec = (BitVec.allOnes 64) <<< 7 := by decide
  rw [Int64.toBitVec_and, e, ← BitVec.shiftLeft_ushiftRight, BitVec.toNat_shiftLeft, BitVec.toNat_ushiftRight, Nat.shiftLeft_eq, Nat.shiftRight_eq_div_pow]
  have := x.toBitVec.isLt
  omega
theorem n_or128 (x : Int64) : ((x ||| (128 : Int64)).toBitVec.toNat) % 256 = x.toBitVec.toNat % 128 + 128 := by
  have e : (128 : Int64).toBitVec.toNat = 128 := by decide
  rw [Int64.toBitVec_or, BitVec.toNat_or, e]
  have h : ∀ a : Nat, (a ||| 128) % 256 = a % 128 + 128 := by
    intro a
    have h1 : (a ||| 128) % 2 ^ 8 = (a % 2 ^ 8) ||| (128 % 2 ^ 8) := Nat.or_mod_two_pow
    have h2 : ∀ c : Fin 256, (c.val ||| 128) = c.val % 128 + 128 := by decide +kernel
    have h3 := h2 ⟨a % 256, by omega⟩
    simp only at h3
    rw [show (256 : Nat) = 2 ^ 8 from rfl, h1, show (128 : Nat) % 2 ^ 8 = 128 from rfl, show (2 : Nat) ^ 8 = 256 from rfl, h3]; omega
  exact h _
/-- (int) of a long, by its bits -/
theorem n_l2i (x : Int64) : x.toInt32.toBitVec.toNat = x.toBitVec.toNat % 4294967296 := by
  show (x.toBitVec.signExtend 32).toNat = _
  rw [BitVec.signExtend_eq_setWidth_of_le _ (by decide), BitVec.toNat_setWidth]
def own_b (x : Int32) : Int32 := x.toInt8.toInt32
theorem own_nb (x : Int32) : nar .byte (own_b x) = own_b x := n_narB x
/-- the number that k groups from s on hold -/
def own_S (f : Nat → Int32) (s : Nat) : Nat → Nat
  | 0 => 0
  | k + 1 => own_S f s k + ((f (s + k)).toInt % 128).toNat * 2 ^ (7 * k)
theorem own_S_lt (f : Nat → Int32) (s k : Nat) : own_S f s k < 2 ^ (7 * k) := by
  induction k with
  | zero => exact Nat.one_pos
  | succ k ih =>
    have h1 : ((f (s + k)).toInt % 128).toNat * 2 ^ (7 * k) ≤ 127 * 2 ^ (7 * k) := Nat.mul_le_mul_right _ (by omega)
    have h2 : (2 : Nat) ^ (7 * (k + 1)) = 128 * 2 ^ (7 * k) := by rw [Nat.mul_add, Nat.pow_add, Nat.mul_comm]
    rw [h2]; show own_S f s k + _ < _; omega
/-- the number from s on ends behind n bytes (10: it doesn't end in nine) -/
def own_T (f : Nat → Int32) (s n : Nat) : Prop := 1 ≤ n ∧ n ≤ 10 ∧ (∀ j, j + 1 < n → (f (s + j)).toInt < 0) ∧ (n ≤ 9 → 0 ≤ (f (s + (n - 1))).toInt)
theorem own_T_uniq {f : Nat → Int32} {s n k : Nat} (h1 : own_T f s n) (h2 : own_T f s k) : n = k := by
  have key : ∀ a b : Nat, own_T f s a → own_T f s b → a < b → False := by
    intro a b ha hb hab
    have q1 := ha.2.2.2 (by have := hb.2.1; omega)
    have q2 := hb.2.2.1 (a - 1) (by have := ha.1; omega)
    omega
  rcases Nat.lt_trichotomy n k with q | q | q
  · exact (key n k h1 h2 q).elim
  · exact q
  · exact (key k n h2 h1 q).elim
theorem own_H {f : Nat → Int32} {s k : Nat} (H : ∀ j, j < k → (f (s + j)).toInt < 0) (q : (f (s + k)).toInt < 0) : ∀ j, j < k + 1 → (f (s + j)).toInt < 0 := fun j h1 => by
  by_cases e : j = k
  · rw [e]; exact q
  · exact H j (by omega)
theorem own_pw (k : Nat) (hk : k ≤ 8) : (2 : Nat) ^ (7 * k) ≤ 72057594037927936 := by
  have : (2 : Nat) ^ (7 * k) ≤ 2 ^ 56 := Nat.pow_le_pow_right (by decide) (by omega)
  exact this
/-- one group, shifted -/
theorem own_g (b y : Int32) (k : Nat) (hy : y.toInt = ((7 * k : Nat) : Int)) (hk : k ≤ 8) : ((b &&& (127 : Int32)).toInt64 <<< (y.toInt64 &&& 63)).toBitVec.toNat = (b.toInt % 128).toNat * 2 ^ (7 * k) := by
  have h0 : (b &&& (127 : Int32)).toInt = b.toInt % 2 ^ 7 := Jvm.Kit.i32_mask b 127 (k := 7) (by decide) (by decide)
  have h1 := n_i2lN (b &&& (127 : Int32)) (b.toInt % 128).toNat (by omega)
  rw [n_shlL _ y (7 * k) hy (by omega), h1]
  have h2 := own_pw k hk
  have h3 : (b.toInt % 128).toNat * 2 ^ (7 * k) ≤ 127 * 2 ^ (7 * k) := Nat.mul_le_mul_right _ (by omega)
  apply Nat.mod_eq_of_lt; omega
theorem own_or (v : Int64) (S : Nat) (hv : v.toInt = S) (b y : Int32) (k : Nat) (hy : y.toInt = ((7 * k : Nat) : Int)) (hk : k ≤ 8) (hS : S < 2 ^ (7 * k)) : (v ||| ((b &&& (127 : Int32)).toInt64 <<< (y.toInt64 &&& 63))).toInt = ((S + (b.toInt % 128).toNat * 2 ^ (7 * k) : Nat) : Int) := by
  have h1 := own_g b y k hy hk
  have h2 := n_natL v (by omega)
  have h3 := n_orL v _ (7 * k) S _ (by omega) hS h1
  have h4 := n_bitsL (v ||| ((b &&& (127 : Int32)).toInt64 <<< (y.toInt64 &&& 63)))
  have h5 := own_pw k hk
  have h6 : (b.toInt % 128).toNat * 2 ^ (7 * k) ≤ 127 * 2 ^ (7 * k) := Nat.mul_le_mul_right _ (by omega)
  rw [h3] at h4
  omega
theorem own_add (v : Int64) (S : Nat) (hv : v.toInt = S) (b y : Int32) (k : Nat) (hy : y.toInt = ((7 * k : Nat) : Int)) (hk : k ≤ 8) (hS : S < 2 ^ (7 * k)) : (v + ((b &&& (127 : Int32)).toInt64 <<< (y.toInt64 &&& 63))).toInt = ((S + (b.toInt % 128).toNat * 2 ^ (7 * k) : Nat) : Int) := by
  have h1 := own_g b y k hy hk
  have h4 := n_bitsL ((b &&& (127 : Int32)).toInt64 <<< (y.toInt64 &&& 63))
  have h5 := own_pw k hk
  have h6 : (b.toInt % 128).toNat * 2 ^ (7 * k) ≤ 127 * 2 ^ (7 * k) := Nat.mul_le_mul_right _ (by omega)
  rw [h1] at h4
  have h7 : ((b &&& (127 : Int32)).toInt64 <<< (y.toInt64 &&& 63)).toInt = (((b.toInt % 128).toNat * 2 ^ (7 * k) : Nat) : Int) := by omega
  rw [Jvm.Kit.i64_add (by omega) (by omega), hv, h7]; omega
theorem own_add0 (b : Int32) : ((0 : Int64) + (b &&& (127 : Int32)).toInt64).toInt = ((b.toInt % 128).toNat : Int) := by
  have h0 : (b &&& (127 : Int32)).toInt = b.toInt % 2 ^ 7 := Jvm.Kit.i32_mask b 127 (k := 7) (by decide) (by decide)
  have h1 : (b &&& (127 : Int32)).toInt64.toInt = (b &&& (127 : Int32)).toInt := Jvm.Kit.i64_of_i32 _
  rw [Jvm.Kit.i64_add (by rw [h1, show (0 : Int64).toInt = 0 from rfl]; omega) (by rw [h1, show (0 : Int64).toInt = 0 from rfl]; omega), h1, show (0 : Int64).toInt = 0 from rfl]; omega
theorem pn_com_example_unigram_query_likelihood_unigramquerylikelihood_index_Varint_ArrayReader : plainName "com/example/unigram_query_likelihood/unigramquerylikelihood/index/Varint$ArrayReader" = true := by first | (simp [plainName, overriddenIn]; done) | decide +kernel
theorem d_init_Varint_ArrayReader_0 : decode prog_85_method_1_code 0 = .ok (.aload_n 0, 1) := by decide +kernel
theorem d_init_Varint_ArrayReader_1 : decode prog_85_method_1_code 1 = .ok (.invokespecial 3, 3) := by decide +kernel
theorem d_init_Varint_ArrayReader_4 : decode prog_85_method_1_code 4 = .ok (.aload_n 0, 1) := by decide +kernel
theorem d_init_Varint_ArrayReader_5 : decode prog_85_method_1_code 5 = .ok (.aload_n 1, 1) := by decide +kernel
theorem d_init_Varint_ArrayReader_6 : decode prog_85_method_1_code 6 = .ok (.putfield 9, 3) := by decide +kernel
theorem d_init_Varint_ArrayReader_9 : decode prog_85_method_1_code 9 = .ok (.return_, 1) := by decide +kernel
theorem pn_com_example_unigram_query_likelihood_unigramquerylikelihood_index_ArrayReaderNextPinLaw : plainName "com/example/unigram_query_likelihood/unigramquerylikelihood/index/ArrayReaderNextPinLaw" = true := by first | (simp [plainName, overriddenIn]; done) | decide +kernel
theorem d_stop_0 : decode method_2_code 0 = .ok (.aload_n 0, 1) := by decide +kernel
theorem d_stop_1 : decode method_2_code 1 = .ok (.iload_n 1, 1) := by decide +kernel
theorem d_stop_2 : decode method_2_code 2 = .ok (.baload, 1) := by decide +kernel
theorem d_stop_3 : decode method_2_code 3 = .ok (.ifCond .lt 5, 3) := by decide +kernel
theorem d_stop_8 : decode method_2_code 8 = .ok (.aload_n 0, 1) := by decide +kernel
theorem d_stop_9 : decode method_2_code 9 = .ok (.iload_n 1, 1) := by decide +kernel
theorem d_stop_10 : decode method_2_code 10 = .ok (.iconst 1, 1) := by decide +kernel
theorem d_stop_11 : decode method_2_code 11 = .ok (.iadd, 1) := by decide +kernel
theorem d_stop_12 : decode method_2_code 12 = .ok (.baload, 1) := by decide +kernel
theorem d_stop_13 : decode method_2_code 13 = .ok (.ifCond .lt 5, 3) := by decide +kernel
theorem d_stop_18 : decode method_2_code 18 = .ok (.aload_n 0, 1) := by decide +kernel
theorem d_stop_19 : decode method_2_code 19 = .ok (.iload_n 1, 1) := by decide +kernel
theorem d_stop_20 : decode method_2_code 20 = .ok (.iconst 2, 1) := by decide +kernel
theorem d_stop_21 : decode method_2_code 21 = .ok (.iadd, 1) := by decide +kernel
theorem d_stop_22 : decode method_2_code 22 = .ok (.baload, 1) := by decide +kernel
theorem d_stop_23 : decode method_2_code 23 = .ok (.ifCond .lt 5, 3) := by decide +kernel
theorem d_stop_28 : decode method_2_code 28 = .ok (.aload_n 0, 1) := by decide +kernel
theorem d_stop_29 : decode method_2_code 29 = .ok (.iload_n 1, 1) := by decide +kernel
theorem d_stop_30 : decode method_2_code 30 = .ok (.iconst 3, 1) := by decide +kernel
theorem d_stop_31 : decode method_2_code 31 = .ok (.iadd, 1) := by decide +kernel
theorem d_stop_32 : decode method_2_code 32 = .ok (.baload, 1) := by decide +kernel
theorem d_stop_33 : decode method_2_code 33 = .ok (.ifCond .lt 5, 3) := by decide +kernel
theorem d_stop_38 : decode method_2_code 38 = .ok (.aload_n 0, 1) := by decide +kernel
theorem d_stop_39 : decode method_2_code 39 = .ok (.iload_n 1, 1) := by decide +kernel
theorem d_stop_40 : decode method_2_code 40 = .ok (.iconst 4, 1) := by decide +kernel
theorem d_stop_41 : decode method_2_code 41 = .ok (.iadd, 1) := by decide +kernel
theorem d_stop_42 : decode method_2_code 42 = .ok (.baload, 1) := by decide +kernel
theorem d_stop_43 : decode method_2_code 43 = .ok (.ifCond .lt 5, 3) := by decide +kernel
theorem d_stop_48 : decode method_2_code 48 = .ok (.aload_n 0, 1) := by decide +kernel
theorem d_stop_49 : decode method_2_code 49 = .ok (.iload_n 1, 1) := by decide +kernel
theorem d_stop_50 : decode method_2_code 50 = .ok (.iconst 5, 1) := by decide +kernel
theorem d_stop_51 : decode method_2_code 51 = .ok (.iadd, 1) := by decide +kernel
theorem d_stop_52 : decode method_2_code 52 = .ok (.baload, 1) := by decide +kernel
theorem d_stop_53 : decode method_2_code 53 = .ok (.ifCond .lt 6, 3) := by decide +kernel
theorem d_stop_59 : decode method_2_code 59 = .ok (.aload_n 0, 1) := by decide +kernel
theorem d_stop_60 : decode method_2_code 60 = .ok (.iload_n 1, 1) := by decide +kernel
theorem d_stop_61 : decode method_2_code 61 = .ok (.bipush 6, 2) := by decide +kernel
theorem d_stop_63 : decode method_2_code 63 = .ok (.iadd, 1) := by decide +kernel
theorem d_stop_64 : decode method_2_code 64 = .ok (.baload, 1) := by decide +kernel
theorem d_stop_65 : decode method_2_code 65 = .ok (.ifCond .lt 6, 3) := by decide +kernel
theorem d_stop_71 : decode method_2_code 71 = .ok (.aload_n 0, 1) := by decide +kernel
theorem d_stop_72 : decode method_2_code 72 = .ok (.iload_n 1, 1) := by decide +kernel
theorem d_stop_73 : decode method_2_code 73 = .ok (.bipush 7, 2) := by decide +kernel
theorem d_stop_75 : decode method_2_code 75 = .ok (.iadd, 1) := by decide +kernel
theorem d_stop_76 : decode method_2_code 76 = .ok (.baload, 1) := by decide +kernel
theorem d_stop_77 : decode method_2_code 77 = .ok (.ifCond .lt 6, 3) := by decide +kernel
theorem d_stop_83 : decode method_2_code 83 = .ok (.aload_n 0, 1) := by decide +kernel
theorem d_stop_84 : decode method_2_code 84 = .ok (.iload_n 1, 1) := by decide +kernel
theorem d_stop_85 : decode method_2_code 85 = .ok (.bipush 8, 2) := by decide +kernel
theorem d_stop_87 : decode method_2_code 87 = .ok (.iadd, 1) := by decide +kernel
theorem d_stop_88 : decode method_2_code 88 = .ok (.baload, 1) := by decide +kernel
theorem d_stop_89 : decode method_2_code 89 = .ok (.ifCond .lt 6, 3) := by decide +kernel
theorem d_stop_95 : decode method_2_code 95 = .ok (.bipush 10, 2) := by decide +kernel
theorem d_stop_97 : decode method_2_code 97 = .ok (.ireturn, 1) := by decide +kernel
theorem d_stop_92 : decode method_2_code 92 = .ok (.bipush 9, 2) := by decide +kernel
theorem d_stop_94 : decode method_2_code 94 = .ok (.ireturn, 1) := by decide +kernel
theorem d_stop_80 : decode method_2_code 80 = .ok (.bipush 8, 2) := by decide +kernel
theorem d_stop_82 : decode method_2_code 82 = .ok (.ireturn, 1) := by decide +kernel
theorem d_stop_68 : decode method_2_code 68 = .ok (.bipush 7, 2) := by decide +kernel
theorem d_stop_70 : decode method_2_code 70 = .ok (.ireturn, 1) := by decide +kernel
theorem d_stop_56 : decode method_2_code 56 = .ok (.bipush 6, 2) := by decide +kernel
theorem d_stop_58 : decode method_2_code 58 = .ok (.ireturn, 1) := by decide +kernel
theorem d_stop_46 : decode method_2_code 46 = .ok (.iconst 5, 1) := by decide +kernel
theorem d_stop_47 : decode method_2_code 47 = .ok (.ireturn, 1) := by decide +kernel
theorem d_stop_36 : decode method_2_code 36 = .ok (.iconst 4, 1) := by decide +kernel
theorem d_stop_37 : decode method_2_code 37 = .ok (.ireturn, 1) := by decide +kernel
theorem d_stop_26 : decode method_2_code 26 = .ok (.iconst 3, 1) := by decide +kernel
theorem d_stop_27 : decode method_2_code 27 = .ok (.ireturn, 1) := by decide +kernel
theorem d_stop_16 : decode method_2_code 16 = .ok (.iconst 2, 1) := by decide +kernel
theorem d_stop_17 : decode method_2_code 17 = .ok (.ireturn, 1) := by decide +kernel
theorem d_stop_6 : decode method_2_code 6 = .ok (.iconst 1, 1) := by decide +kernel
theorem d_stop_7 : decode method_2_code 7 = .ok (.ireturn, 1) := by decide +kernel
theorem d_value_0 : decode method_3_code 0 = .ok (.iload_n 2, 1) := by decide +kernel
theorem d_value_1 : decode method_3_code 1 = .ok (.bipush 10, 2) := by decide +kernel
theorem d_value_3 : decode method_3_code 3 = .ok (.if_icmp .ne 7, 3) := by decide +kernel
theorem d_value_192 : decode method_3_code 192 = .ok (.lload_n 3, 1) := by decide +kernel
theorem d_value_193 : decode method_3_code 193 = .ok (.lreturn, 1) := by decide +kernel
theorem d_value_170 : decode method_3_code 170 = .ok (.iload_n 2, 1) := by decide +kernel
theorem d_value_171 : decode method_3_code 171 = .ok (.bipush 8, 2) := by decide +kernel
theorem d_value_173 : decode method_3_code 173 = .ok (.if_icmp .le 19, 3) := by decide +kernel
theorem d_value_176 : decode method_3_code 176 = .ok (.lload_n 3, 1) := by decide +kernel
theorem d_value_177 : decode method_3_code 177 = .ok (.aload_n 0, 1) := by decide +kernel
theorem d_value_178 : decode method_3_code 178 = .ok (.iload_n 1, 1) := by decide +kernel
theorem d_value_179 : decode method_3_code 179 = .ok (.bipush 8, 2) := by decide +kernel
theorem d_value_181 : decode method_3_code 181 = .ok (.iadd, 1) := by decide +kernel
theorem d_value_182 : decode method_3_code 182 = .ok (.baload, 1) := by decide +kernel
theorem d_value_183 : decode method_3_code 183 = .ok (.bipush 127, 2) := by decide +kernel
theorem d_value_185 : decode method_3_code 185 = .ok (.iand, 1) := by decide +kernel
theorem d_value_186 : decode method_3_code 186 = .ok (.i2l, 1) := by decide +kernel
theorem d_value_187 : decode method_3_code 187 = .ok (.bipush 56, 2) := by decide +kernel
theorem d_value_189 : decode method_3_code 189 = .ok (.lshl, 1) := by decide +kernel
theorem d_value_190 : decode method_3_code 190 = .ok (.ladd, 1) := by decide +kernel
theorem d_value_191 : decode method_3_code 191 = .ok (.lstore_n 3, 1) := by decide +kernel
theorem d_value_148 : decode method_3_code 148 = .ok (.iload_n 2, 1) := by decide +kernel
theorem d_value_149 : decode method_3_code 149 = .ok (.bipush 7, 2) := by decide +kernel
theorem d_value_151 : decode method_3_code 151 = .ok (.if_icmp .le 19, 3) := by decide +kernel
theorem d_value_154 : decode method_3_code 154 = .ok (.lload_n 3, 1) := by decide +kernel
theorem d_value_155 : decode method_3_code 155 = .ok (.aload_n 0, 1) := by decide +kernel
theorem d_value_156 : decode method_3_code 156 = .ok (.iload_n 1, 1) := by decide +kernel
theorem d_value_157 : decode method_3_code 157 = .ok (.bipush 7, 2) := by decide +kernel
theorem d_value_159 : decode method_3_code 159 = .ok (.iadd, 1) := by decide +kernel
theorem d_value_160 : decode method_3_code 160 = .ok (.baload, 1) := by decide +kernel
theorem d_value_161 : decode method_3_code 161 = .ok (.bipush 127, 2) := by decide +kernel
theorem d_value_163 : decode method_3_code 163 = .ok (.iand, 1) := by decide +kernel
theorem d_value_164 : decode method_3_code 164 = .ok (.i2l, 1) := by decide +kernel
theorem d_value_165 : decode method_3_code 165 = .ok (.bipush 49, 2) := by decide +kernel
theorem d_value_167 : decode method_3_code 167 = .ok (.lshl, 1) := by decide +kernel
theorem d_value_168 : decode method_3_code 168 = .ok (.ladd, 1) := by decide +kernel
theorem d_value_169 : decode method_3_code 169 = .ok (.lstore_n 3, 1) := by decide +kernel
theorem d_value_126 : decode method_3_code 126 = .ok (.iload_n 2, 1) := by decide +kernel
theorem d_value_127 : decode method_3_code 127 = .ok (.bipush 6, 2) := by decide +kernel
theorem d_value_129 : decode method_3_code 129 = .ok (.if_icmp .le 19, 3) := by decide +kernel
theorem d_value_132 : decode method_3_code 132 = .ok (.lload_n 3, 1) := by decide +kernel
theorem d_value_133 : decode method_3_code 133 = .ok (.aload_n 0, 1) := by decide +kernel
theorem d_value_134 : decode method_3_code 134 = .ok (.iload_n 1, 1) := by decide +kernel
theorem d_value_135 : decode method_3_code 135 = .ok (.bipush 6, 2) := by decide +kernel
theorem d_value_137 : decode method_3_code 137 = .ok (.iadd, 1) := by decide +kernel
theorem d_value_138 : decode method_3_code 138 = .ok (.baload, 1) := by decide +kernel
theorem d_value_139 : decode method_3_code 139 = .ok (.bipush 127, 2) := by decide +kernel
theorem d_value_141 : decode method_3_code 141 = .ok (.iand, 1) := by decide +kernel
theorem d_value_142 : decode method_3_code 142 = .ok (.i2l, 1) := by decide +kernel
theorem d_value_143 : decode method_3_code 143 = .ok (.bipush 42, 2) := by decide +kernel
theorem d_value_145 : decode method_3_code 145 = .ok (.lshl, 1) := by decide +kernel
theorem d_value_146 : decode method_3_code 146 = .ok (.ladd, 1) := by decide +kernel
theorem d_value_147 : decode method_3_code 147 = .ok (.lstore_n 3, 1) := by decide +kernel
theorem d_value_106 : decode method_3_code 106 = .ok (.iload_n 2, 1) := by decide +kernel
theorem d_value_107 : decode method_3_code 107 = .ok (.iconst 5, 1) := by decide +kernel
theorem d_value_108 : decode method_3_code 108 = .ok (.if_icmp .le 18, 3) := by decide +kernel
theorem d_value_111 : decode method_3_code 111 = .ok (.lload_n 3, 1) := by decide +kernel
theorem d_value_112 : decode method_3_code 112 = .ok (.aload_n 0, 1) := by decide +kernel
theorem d_value_113 : decode method_3_code 113 = .ok (.iload_n 1, 1) := by decide +kernel
theorem d_value_114 : decode method_3_code 114 = .ok (.iconst 5, 1) := by decide +kernel
theorem d_value_115 : decode method_3_code 115 = .ok (.iadd, 1) := by decide +kernel
theorem d_value_116 : decode method_3_code 116 = .ok (.baload, 1) := by decide +kernel
theorem d_value_117 : decode method_3_code 117 = .ok (.bipush 127, 2) := by decide +kernel
theorem d_value_119 : decode method_3_code 119 = .ok (.iand, 1) := by decide +kernel
theorem d_value_120 : decode method_3_code 120 = .ok (.i2l, 1) := by decide +kernel
theorem d_value_121 : decode method_3_code 121 = .ok (.bipush 35, 2) := by decide +kernel
theorem d_value_123 : decode method_3_code 123 = .ok (.lshl, 1) := by decide +kernel
theorem d_value_124 : decode method_3_code 124 = .ok (.ladd, 1) := by decide +kernel
theorem d_value_125 : decode method_3_code 125 = .ok (.lstore_n 3, 1) := by decide +kernel
theorem d_value_86 : decode method_3_code 86 = .ok (.iload_n 2, 1) := by decide +kernel
theorem d_value_87 : decode method_3_code 87 = .ok (.iconst 4, 1) := by decide +kernel
theorem d_value_88 : decode method_3_code 88 = .ok (.if_icmp .le 18, 3) := by decide +kernel
theorem d_value_91 : decode method_3_code 91 = .ok (.lload_n 3, 1) := by decide +kernel
theorem d_value_92 : decode method_3_code 92 = .ok (.aload_n 0, 1) := by decide +kernel
theorem d_value_93 : decode method_3_code 93 = .ok (.iload_n 1, 1) := by decide +kernel
theorem d_value_94 : decode method_3_code 94 = .ok (.iconst 4, 1) := by decide +kernel
theorem d_value_95 : decode method_3_code 95 = .ok (.iadd, 1) := by decide +kernel
theorem d_value_96 : decode method_3_code 96 = .ok (.baload, 1) := by decide +kernel
theorem d_value_97 : decode method_3_code 97 = .ok (.bipush 127, 2) := by decide +kernel
theorem d_value_99 : decode method_3_code 99 = .ok (.iand, 1) := by decide +kernel
theorem d_value_100 : decode method_3_code 100 = .ok (.i2l, 1) := by decide +kernel
theorem d_value_101 : decode method_3_code 101 = .ok (.bipush 28, 2) := by decide +kernel
theorem d_value_103 : decode method_3_code 103 = .ok (.lshl, 1) := by decide +kernel
theorem d_value_104 : decode method_3_code 104 = .ok (.ladd, 1) := by decide +kernel
theorem d_value_105 : decode method_3_code 105 = .ok (.lstore_n 3, 1) := by decide +kernel
theorem d_value_66 : decode method_3_code 66 = .ok (.iload_n 2, 1) := by decide +kernel
theorem d_value_67 : decode method_3_code 67 = .ok (.iconst 3, 1) := by decide +kernel
theorem d_value_68 : decode method_3_code 68 = .ok (.if_icmp .le 18, 3) := by decide +kernel
theorem d_value_71 : decode method_3_code 71 = .ok (.lload_n 3, 1) := by decide +kernel
theorem d_value_72 : decode method_3_code 72 = .ok (.aload_n 0, 1) := by decide +kernel
theorem d_value_73 : decode method_3_code 73 = .ok (.iload_n 1, 1) := by decide +kernel
theorem d_value_74 : decode method_3_code 74 = .ok (.iconst 3, 1) := by decide +kernel
theorem d_value_75 : decode method_3_code 75 = .ok (.iadd, 1) := by decide +kernel
theorem d_value_76 : decode method_3_code 76 = .ok (.baload, 1) := by decide +kernel
theorem d_value_77 : decode method_3_code 77 = .ok (.bipush 127, 2) := by decide +kernel
theorem d_value_79 : decode method_3_code 79 = .ok (.iand, 1) := by decide +kernel
theorem d_value_80 : decode method_3_code 80 = .ok (.i2l, 1) := by decide +kernel
theorem d_value_81 : decode method_3_code 81 = .ok (.bipush 21, 2) := by decide +kernel
theorem d_value_83 : decode method_3_code 83 = .ok (.lshl, 1) := by decide +kernel
theorem d_value_84 : decode method_3_code 84 = .ok (.ladd, 1) := by decide +kernel
theorem d_value_85 : decode method_3_code 85 = .ok (.lstore_n 3, 1) := by decide +kernel
theorem d_value_46 : decode method_3_code 46 = .ok (.iload_n 2, 1) := by decide +kernel
theorem d_value_47 : decode method_3_code 47 = .ok (.iconst 2, 1) := by decide +kernel
theorem d_value_48 : decode method_3_code 48 = .ok (.if_icmp .le 18, 3) := by decide +kernel
theorem d_value_51 : decode method_3_code 51 = .ok (.lload_n 3, 1) := by decide +kernel
theorem d_value_52 : decode method_3_code 52 = .ok (.aload_n 0, 1) := by decide +kernel
theorem d_value_53 : decode method_3_code 53 = .ok (.iload_n 1, 1) := by decide +kernel
theorem d_value_54 : decode method_3_code 54 = .ok (.iconst 2, 1) := by decide +kernel
theorem d_value_55 : decode method_3_code 55 = .ok (.iadd, 1) := by decide +kernel
theorem d_value_56 : decode method_3_code 56 = .ok (.baload, 1) := by decide +kernel
theorem d_value_57 : decode method_3_code 57 = .ok (.bipush 127, 2) := by decide +kernel
theorem d_value_59 : decode method_3_code 59 = .ok (.iand, 1) := by decide +kernel
theorem d_value_60 : decode method_3_code 60 = .ok (.i2l, 1) := by decide +kernel
theorem d_value_61 : decode method_3_code 61 = .ok (.bipush 14, 2) := by decide +kernel
theorem d_value_63 : decode method_3_code 63 = .ok (.lshl, 1) := by decide +kernel
theorem d_value_64 : decode method_3_code 64 = .ok (.ladd, 1) := by decide +kernel
theorem d_value_65 : decode method_3_code 65 = .ok (.lstore_n 3, 1) := by decide +kernel
theorem d_value_26 : decode method_3_code 26 = .ok (.iload_n 2, 1) := by decide +kernel
theorem d_value_27 : decode method_3_code 27 = .ok (.iconst 1, 1) := by decide +kernel
theorem d_value_28 : decode method_3_code 28 = .ok (.if_icmp .le 18, 3) := by decide +kernel
theorem d_value_31 : decode method_3_code 31 = .ok (.lload_n 3, 1) := by decide +kernel
theorem d_value_32 : decode method_3_code 32 = .ok (.aload_n 0, 1) := by decide +kernel
theorem d_value_33 : decode method_3_code 33 = .ok (.iload_n 1, 1) := by decide +kernel
theorem d_value_34 : decode method_3_code 34 = .ok (.iconst 1, 1) := by decide +kernel
theorem d_value_35 : decode method_3_code 35 = .ok (.iadd, 1) := by decide +kernel
theorem d_value_36 : decode method_3_code 36 = .ok (.baload, 1) := by decide +kernel
theorem d_value_37 : decode method_3_code 37 = .ok (.bipush 127, 2) := by decide +kernel
theorem d_value_39 : decode method_3_code 39 = .ok (.iand, 1) := by decide +kernel
theorem d_value_40 : decode method_3_code 40 = .ok (.i2l, 1) := by decide +kernel
theorem d_value_41 : decode method_3_code 41 = .ok (.bipush 7, 2) := by decide +kernel
theorem d_value_43 : decode method_3_code 43 = .ok (.lshl, 1) := by decide +kernel
theorem d_value_44 : decode method_3_code 44 = .ok (.ladd, 1) := by decide +kernel
theorem d_value_45 : decode method_3_code 45 = .ok (.lstore_n 3, 1) := by decide +kernel
theorem d_value_10 : decode method_3_code 10 = .ok (.lconst 0, 1) := by decide +kernel
theorem d_value_11 : decode method_3_code 11 = .ok (.lstore_n 3, 1) := by decide +kernel
theorem d_value_12 : decode method_3_code 12 = .ok (.iload_n 2, 1) := by decide +kernel
theorem d_value_13 : decode method_3_code 13 = .ok (.ifCond .le 13, 3) := by decide +kernel
theorem d_value_16 : decode method_3_code 16 = .ok (.lload_n 3, 1) := by decide +kernel
theorem d_value_17 : decode method_3_code 17 = .ok (.aload_n 0, 1) := by decide +kernel
theorem d_value_18 : decode method_3_code 18 = .ok (.iload_n 1, 1) := by decide +kernel
theorem d_value_19 : decode method_3_code 19 = .ok (.baload, 1) := by decide +kernel
theorem d_value_20 : decode method_3_code 20 = .ok (.bipush 127, 2) := by decide +kernel
theorem d_value_22 : decode method_3_code 22 = .ok (.iand, 1) := by decide +kernel
theorem d_value_23 : decode method_3_code 23 = .ok (.i2l, 1) := by decide +kernel
theorem d_value_24 : decode method_3_code 24 = .ok (.ladd, 1) := by decide +kernel
theorem d_value_25 : decode method_3_code 25 = .ok (.lstore_n 3, 1) := by decide +kernel
theorem d_value_6 : decode method_3_code 6 = .ok (.ldc2_w 7, 3) := by decide +kernel
theorem d_value_9 : decode method_3_code 9 = .ok (.lreturn, 1) := by decide +kernel
theorem d_next_4 : decode prog_85_method_3_code 4 = .ok (.iload_n 3, 1) := by decide +kernel
theorem d_next_5 : decode prog_85_method_3_code 5 = .ok (.bipush 63, 2) := by decide +kernel
theorem d_next_7 : decode prog_85_method_3_code 7 = .ok (.if_icmp .ge 65, 3) := by decide +kernel
theorem d_next_72 : decode prog_85_method_3_code 72 = .ok (.ldc2_w 22, 3) := by decide +kernel
theorem d_next_75 : decode prog_85_method_3_code 75 = .ok (.lreturn, 1) := by decide +kernel
theorem d_next_10 : decode prog_85_method_3_code 10 = .ok (.aload_n 0, 1) := by decide +kernel
theorem d_next_11 : decode prog_85_method_3_code 11 = .ok (.getfield 15, 3) := by decide +kernel
theorem d_next_14 : decode prog_85_method_3_code 14 = .ok (.aload_n 0, 1) := by decide +kernel
theorem d_next_15 : decode prog_85_method_3_code 15 = .ok (.getfield 9, 3) := by decide +kernel
theorem d_next_18 : decode prog_85_method_3_code 18 = .ok (.arraylength, 1) := by decide +kernel
theorem d_next_19 : decode prog_85_method_3_code 19 = .ok (.if_icmp .ne 11, 3) := by decide +kernel
theorem d_next_30 : decode prog_85_method_3_code 30 = .ok (.aload_n 0, 1) := by decide +kernel
theorem d_next_31 : decode prog_85_method_3_code 31 = .ok (.getfield 9, 3) := by decide +kernel
theorem d_next_34 : decode prog_85_method_3_code 34 = .ok (.aload_n 0, 1) := by decide +kernel
theorem d_next_35 : decode prog_85_method_3_code 35 = .ok (.dup, 1) := by decide +kernel
theorem d_next_36 : decode prog_85_method_3_code 36 = .ok (.getfield 15, 3) := by decide +kernel
theorem d_next_39 : decode prog_85_method_3_code 39 = .ok (.dup_x1, 1) := by decide +kernel
theorem d_next_40 : decode prog_85_method_3_code 40 = .ok (.iconst 1, 1) := by decide +kernel
theorem d_next_41 : decode prog_85_method_3_code 41 = .ok (.iadd, 1) := by decide +kernel
theorem d_next_42 : decode prog_85_method_3_code 42 = .ok (.putfield 15, 3) := by decide +kernel
theorem d_next_45 : decode prog_85_method_3_code 45 = .ok (.baload, 1) := by decide +kernel
theorem d_next_46 : decode prog_85_method_3_code 46 = .ok (.istore 4, 2) := by decide +kernel
theorem d_next_48 : decode prog_85_method_3_code 48 = .ok (.lload_n 1, 1) := by decide +kernel
theorem d_next_49 : decode prog_85_method_3_code 49 = .ok (.iload 4, 2) := by decide +kernel
theorem d_next_51 : decode prog_85_method_3_code 51 = .ok (.bipush 127, 2) := by decide +kernel
theorem d_next_53 : decode prog_85_method_3_code 53 = .ok (.iand, 1) := by decide +kernel
theorem d_next_54 : decode prog_85_method_3_code 54 = .ok (.i2l, 1) := by decide +kernel
theorem d_next_55 : decode prog_85_method_3_code 55 = .ok (.iload_n 3, 1) := by decide +kernel
theorem d_next_56 : decode prog_85_method_3_code 56 = .ok (.lshl, 1) := by decide +kernel
theorem d_next_57 : decode prog_85_method_3_code 57 = .ok (.lor, 1) := by decide +kernel
theorem d_next_58 : decode prog_85_method_3_code 58 = .ok (.lstore_n 1, 1) := by decide +kernel
theorem d_next_59 : decode prog_85_method_3_code 59 = .ok (.iload 4, 2) := by decide +kernel
theorem d_next_61 : decode prog_85_method_3_code 61 = .ok (.ifCond .lt 5, 3) := by decide +kernel
theorem d_next_66 : decode prog_85_method_3_code 66 = .ok (.iinc 3 7, 3) := by decide +kernel
theorem d_next_69 : decode prog_85_method_3_code 69 = .ok (.goto (-65), 3) := by decide +kernel
theorem d_next_64 : decode prog_85_method_3_code 64 = .ok (.lload_n 1, 1) := by decide +kernel
theorem d_next_65 : decode prog_85_method_3_code 65 = .ok (.lreturn, 1) := by decide +kernel
theorem d_next_0 : decode prog_85_method_3_code 0 = .ok (.lconst 0, 1) := by decide +kernel
theorem d_next_1 : decode prog_85_method_3_code 1 = .ok (.lstore_n 1, 1) := by decide +kernel
theorem d_next_2 : decode prog_85_method_3_code 2 = .ok (.iconst 0, 1) := by decide +kernel
theorem d_next_3 : decode prog_85_method_3_code 3 = .ok (.istore_n 3, 1) := by decide +kernel
theorem d_atEnd_0 : decode prog_85_method_2_code 0 = .ok (.aload_n 0, 1) := by decide +kernel
theorem d_atEnd_1 : decode prog_85_method_2_code 1 = .ok (.getfield 15, 3) := by decide +kernel
theorem d_atEnd_4 : decode prog_85_method_2_code 4 = .ok (.aload_n 0, 1) := by decide +kernel
theorem d_atEnd_5 : decode prog_85_method_2_code 5 = .ok (.getfield 9, 3) := by decide +kernel
theorem d_atEnd_8 : decode prog_85_method_2_code 8 = .ok (.arraylength, 1) := by decide +kernel
theorem d_atEnd_9 : decode prog_85_method_2_code 9 = .ok (.if_icmp .ne 7, 3) := by decide +kernel
theorem d_atEnd_16 : decode prog_85_method_2_code 16 = .ok (.iconst 0, 1) := by decide +kernel
theorem d_atEnd_17 : decode prog_85_method_2_code 17 = .ok (.ireturn, 1) := by decide +kernel
theorem d_atEnd_12 : decode prog_85_method_2_code 12 = .ok (.iconst 1, 1) := by decide +kernel
theorem d_atEnd_13 : decode prog_85_method_2_code 13 = .ok (.goto 4, 3) := by decide +kernel
theorem pd_stop : parseMethodDescriptor "([BI)I" = some ⟨[.array (.byte), .int], (some .int)⟩ := by decide +kernel
theorem pd_value : parseMethodDescriptor "([BII)J" = some ⟨[.array (.byte), .int, .int], (some .long)⟩ := by decide +kernel
theorem pd_init_Varint_ArrayReader : parseMethodDescriptor "([B)V" = some ⟨[.array (.byte)], none⟩ := by decide +kernel
theorem pd_next : parseMethodDescriptor "()J" = some ⟨[], (some .long)⟩ := by decide +kernel
theorem pd_atEnd : parseMethodDescriptor "()Z" = some ⟨[], (some .boolean)⟩ := by decide +kernel
set_option maxRecDepth 65536 in
set_option maxHeartbeats 40000000 in
theorem con_init (l : Launch) (Z : State) (a0 : Array Value) (hw : ∀ d ∈ tables_1, d.before a0 Z = true) (a1 : Addr) (t1 : Addr) (u_bytes : Value) (u_position : Value) (h0 : Heap) (n0 : Nat) (Z0 : n0 ≤ h0.size) (E_a1 : Exa Z h0 a1 "com/example/unigram_query_likelihood/unigramquerylikelihood/index/Varint$ArrayReader") (F_bytes : Fld Z h0 a1 "com/example/unigram_query_likelihood/unigramquerylikelihood/index/Varint$ArrayReader" "bytes" "[B" u_bytes) (F_position : Fld Z h0 a1 "com/example/unigram_query_likelihood/unigramquerylikelihood/index/Varint$ArrayReader" "position" "I" u_position) (g_a1 : n0 ≤ a1) : Con l Z (⟨"com/example/unigram_query_likelihood/unigramquerylikelihood/index/Varint$ArrayReader", "<init>", "([B)V"⟩ : MethodName) prog_85_method_1_code 2 none ({ frames := 1, cells := 0, slots := 0, locals := 12 } : Room) #[(.ref a1), (.ref t1)] h0 n0 0 0 (fun v h => v = none ∧ Keep h0 h [a1] ∧ Fld Z h a1 "com/example/unigram_query_likelihood/unigramquerylikelihood/index/Varint$ArrayReader" "bytes" "[B" (.ref t1) ∧ Fld Z h a1 "com/example/unigram_query_likelihood/unigramquerylikelihood/index/Varint$ArrayReader" "position" "I" u_position) := by
  refine Con.of_body (ls := #[.val (.ref a1), .val (.ref t1)]) pn_com_example_unigram_query_likelihood_unigramquerylikelihood_index_Varint_ArrayReader (fun m => by first | (simp [entryFrame, mkF, argsToLocals, Value.category]; done) | rfl) Z0 (fun p e s m below meth c T (X : Here p l e ({ frames := 1, cells := 0, slots := 0, locals := 12 } : Room) s m #[(.ref a1), (.ref t1)] below meth c Z "com/example/unigram_query_likelihood/unigramquerylikelihood/index/Varint$ArrayReader" "<init>" prog_85_method_1_code 2 none n0 T h0 0 0) => ?_)
  refine r_aloadN X (pc' := 1) d_init_Varint_ArrayReader_0 rfl rfl ?_
  refine r_initObject X (pc' := 4) (W := 0) d_init_Varint_ArrayReader_1 (wd hw 14 rfl) (wd hw 15 rfl) (wd hw 16 rfl) rfl (by decide) rfl (by decide) rfl (fun T1 X2 => ?_)
  show Run p e below _ _ (mkF m 4 #[.val (.ref a1), .val (.ref t1)] [])
  have K0 := Keep.refl h0 [a1]
  refine r_aloadN X2 (pc' := 5) d_init_Varint_ArrayReader_4 rfl rfl ?_
  refine r_aloadN X2 (pc' := 6) d_init_Varint_ArrayReader_5 rfl rfl ?_
  refine r_putfield X2 (pc' := 9) (ty := (.array .byte)) d_init_Varint_ArrayReader_6 (wd hw 17 rfl) F_bytes E_a1 (Or.inr ⟨(wd hw 18 rfl), rfl, rfl⟩) (wd hw 9 rfl) (by decide) rfl rfl g_a1 rfl (fun T3 h4 X5 W6 => ?_)
  have f7 := E_a1.wr W6
  have f8 := F_bytes.same W6
  have f9 := F_position.other W6 (Or.inr (slot_ne (C := "com/example/unigram_query_likelihood/unigramquerylikelihood/index/Varint$ArrayReader") (Or.inl (wd hw 25 rfl)) (Or.inr (wd hw 18 rfl)) (by decide) (t := .int) (t' := (.array .byte)) (by decide) (by decide)))
  have K10 := K0.wr W6 (Or.inl (List.mem_of_getElem? (i := 0) rfl))
  exact r_ret X5 d_init_Varint_ArrayReader_9 ⟨rfl, K10, f8, f9⟩ (by decide) (by decide)
set_option maxRecDepth 65536 in
set_option maxHeartbeats 40000000 in
theorem con_stop (l : Launch) (Z : State) (a0 : Array Value) (hw : ∀ d ∈ tables_1, d.before a0 Z = true) (t1 : Addr) (q1 : Int32) (f : Nat → Int32) (i : Nat) (h0 : Heap) (n0 : Nat) (Z0 : n0 ≤ h0.size) (A1 : Arf Z h0 t1 .byte 18 f) (hq1 : q1.toInt = i) (hi : i ≤ 9) : Con l Z (⟨"com/example/unigram_query_likelihood/unigramquerylikelihood/index/ArrayReaderNextPinLaw", "stop", "([BI)I"⟩ : MethodName) method_2_code 2 (some .int) ({ frames := 0, cells := 0, slots := 0, locals := 0 } : Room) #[(.ref t1), (.int q1)] h0 n0 0 0 (fun v h => (∃ (z : Int32) (n : Nat), v = some (.int z) ∧ z.toInt = n ∧ own_T f i n) ∧ h0 = h) := by
  refine Con.of_body (ls := #[.val (.ref t1), .val (.int q1)]) pn_com_example_unigram_query_likelihood_unigramquerylikelihood_index_ArrayReaderNextPinLaw (fun m => by first | (simp [entryFrame, mkF, argsToLocals, Value.category]; done) | rfl) Z0 (fun p e s m below meth c T (X : Here p l e ({ frames := 0, cells := 0, slots := 0, locals := 0 } : Room) s m #[(.ref t1), (.int q1)] below meth c Z "com/example/unigram_query_likelihood/unigramquerylikelihood/index/ArrayReaderNextPinLaw" "stop" method_2_code 2 (some .int) n0 T h0 0 0) => ?_)
  have H0 : ∀ j, j < 0 → (f (i + j)).toInt < 0 := fun j h1 => by omega
  refine r_aloadN X (pc' := 1) d_stop_0 rfl rfl ?_
  refine r_iloadN X (pc' := 2) d_stop_1 rfl rfl ?_
  refine r_baload X (pc' := 3) (i := (i + 0)) (v := (f (i + 0))) d_stop_2 A1 (by rw [hq1]; rfl) (by omega) rfl rfl ?_
  refine r_if X (pc' := 8) (pc2 := 6) d_stop_3 (by decide) (by decide) rfl (a := (f (i + 0)).toInt) (b := 0) rfl rfl (fun (cq11 : (f (i + 0)).toInt < 0) => ?_) (fun (cq11 : ¬ ((f (i + 0)).toInt < 0)) => ?_)
  · have H1 := own_H H0 cq11
    refine r_aloadN X (pc' := 9) d_stop_8 rfl rfl ?_
    refine r_iloadN X (pc' := 10) d_stop_9 rfl rfl ?_
    refine r_iconst X (pc' := 11) (v := (1 : Int32)) d_stop_10 rfl rfl ?_
    obtain ⟨s1, hs1⟩ : ∃ z, q1 + (1 : Int32) = z := ⟨_, rfl⟩
    have ks1 : s1.toInt = ((i + 1 : Nat) : Int) := by rw [← hs1, n_add hq1 (show (1 : Int32).toInt = 1 from rfl) (by omega) (by omega)]; omega
    refine r_iadd X (pc' := 12) (z := s1) d_stop_11 hs1 rfl ?_
    refine r_baload X (pc' := 13) (i := (i + 1)) (v := (f (i + 1))) d_stop_12 A1 ks1 (by omega) rfl rfl ?_
    refine r_if X (pc' := 18) (pc2 := 16) d_stop_13 (by decide) (by decide) rfl (a := (f (i + 1)).toInt) (b := 0) rfl rfl (fun (cq12 : (f (i + 1)).toInt < 0) => ?_) (fun (cq12 : ¬ ((f (i + 1)).toInt < 0)) => ?_)
    · have H2 := own_H H1 cq12
      refine r_aloadN X (pc' := 19) d_stop_18 rfl rfl ?_
      refine r_iloadN X (pc' := 20) d_stop_19 rfl rfl ?_
      refine r_iconst X (pc' := 21) (v := (2 : Int32)) d_stop_20 rfl rfl ?_
      obtain ⟨s2, hs2⟩ : ∃ z, q1 + (2 : Int32) = z := ⟨_, rfl⟩
      have ks2 : s2.toInt = ((i + 2 : Nat) : Int) := by rw [← hs2, n_add hq1 (show (2 : Int32).toInt = 2 from rfl) (by omega) (by omega)]; omega
      refine r_iadd X (pc' := 22) (z := s2) d_stop_21 hs2 rfl ?_
      refine r_baload X (pc' := 23) (i := (i + 2)) (v := (f (i + 2))) d_stop_22 A1 ks2 (by omega) rfl rfl ?_
      refine r_if X (pc' := 28) (pc2 := 26) d_stop_23 (by decide) (by decide) rfl (a := (f (i + 2)).toInt) (b := 0) rfl rfl (fun (cq13 : (f (i + 2)).toInt < 0) => ?_) (fun (cq13 : ¬ ((f (i + 2)).toInt < 0)) => ?_)
      · have H3 := own_H H2 cq13
        refine r_aloadN X (pc' := 29) d_stop_28 rfl rfl ?_
        refine r_iloadN X (pc' := 30) d_stop_29 rfl rfl ?_
        refine r_iconst X (pc' := 31) (v := (3 : Int32)) d_stop_30 rfl rfl ?_
        obtain ⟨s3, hs3⟩ : ∃ z, q1 + (3 : Int32) = z := ⟨_, rfl⟩
        have ks3 : s3.toInt = ((i + 3 : Nat) : Int) := by rw [← hs3, n_add hq1 (show (3 : Int32).toInt = 3 from rfl) (by omega) (by omega)]; omega
        refine r_iadd X (pc' := 32) (z := s3) d_stop_31 hs3 rfl ?_
        refine r_baload X (pc' := 33) (i := (i + 3)) (v := (f (i + 3))) d_stop_32 A1 ks3 (by omega) rfl rfl ?_
        refine r_if X (pc' := 38) (pc2 := 36) d_stop_33 (by decide) (by decide) rfl (a := (f (i + 3)).toInt) (b := 0) rfl rfl (fun (cq14 : (f (i + 3)).toInt < 0) => ?_) (fun (cq14 : ¬ ((f (i + 3)).toInt < 0)) => ?_)
        · have H4 := own_H H3 cq14
          refine r_aloadN X (pc' := 39) d_stop_38 rfl rfl ?_
          refine r_iloadN X (pc' := 40) d_stop_39 rfl rfl ?_
          refine r_iconst X (pc' := 41) (v := (4 : Int32)) d_stop_40 rfl rfl ?_
          obtain ⟨s4, hs4⟩ : ∃ z, q1 + (4 : Int32) = z := ⟨_, rfl⟩
          have ks4 : s4.toInt = ((i + 4 : Nat) : Int) := by rw [← hs4, n_add hq1 (show (4 : Int32).toInt = 4 from rfl) (by omega) (by omega)]; omega
          refine r_iadd X (pc' := 42) (z := s4) d_stop_41 hs4 rfl ?_
          refine r_baload X (pc' := 43) (i := (i + 4)) (v := (f (i + 4))) d_stop_42 A1 ks4 (by omega) rfl rfl ?_
          refine r_if X (pc' := 48) (pc2 := 46) d_stop_43 (by decide) (by decide) rfl (a := (f (i + 4)).toInt) (b := 0) rfl rfl (fun (cq15 : (f (i + 4)).toInt < 0) => ?_) (fun (cq15 : ¬ ((f (i + 4)).toInt < 0)) => ?_)
          · have H5 := own_H H4 cq15
            refine r_aloadN X (pc' := 49) d_stop_48 rfl rfl ?_
            refine r_iloadN X (pc' := 50) d_stop_49 rfl rfl ?_
            refine r_iconst X (pc' := 51) (v := (5 : Int32)) d_stop_50 rfl rfl ?_
            obtain ⟨s5, hs5⟩ : ∃ z, q1 + (5 : Int32) = z := ⟨_, rfl⟩
            have ks5 : s5.toInt = ((i + 5 : Nat) : Int) := by rw [← hs5, n_add hq1 (show (5 : Int32).toInt = 5 from rfl) (by omega) (by omega)]; omega
            refine r_iadd X (pc' := 52) (z := s5) d_stop_51 hs5 rfl ?_
            refine r_baload X (pc' := 53) (i := (i + 5)) (v := (f (i + 5))) d_stop_52 A1 ks5 (by omega) rfl rfl ?_
            refine r_if X (pc' := 59) (pc2 := 56) d_stop_53 (by decide) (by decide) rfl (a := (f (i + 5)).toInt) (b := 0) rfl rfl (fun (cq16 : (f (i + 5)).toInt < 0) => ?_) (fun (cq16 : ¬ ((f (i + 5)).toInt < 0)) => ?_)
            · have H6 := own_H H5 cq16
              refine r_aloadN X (pc' := 60) d_stop_59 rfl rfl ?_
              refine r_iloadN X (pc' := 61) d_stop_60 rfl rfl ?_
              refine r_bipush X (pc' := 63) (v := (6 : Int32)) d_stop_61 rfl rfl ?_
              obtain ⟨s6, hs6⟩ : ∃ z, q1 + (6 : Int32) = z := ⟨_, rfl⟩
              have ks6 : s6.toInt = ((i + 6 : Nat) : Int) := by rw [← hs6, n_add hq1 (show (6 : Int32).toInt = 6 from rfl) (by omega) (by omega)]; omega
              refine r_iadd X (pc' := 64) (z := s6) d_stop_63 hs6 rfl ?_
              refine r_baload X (pc' := 65) (i := (i + 6)) (v := (f (i + 6))) d_stop_64 A1 ks6 (by omega) rfl rfl ?_
              refine r_if X (pc' := 71) (pc2 := 68) d_stop_65 (by decide) (by decide) rfl (a := (f (i + 6)).toInt) (b := 0) rfl rfl (fun (cq17 : (f (i + 6)).toInt < 0) => ?_) (fun (cq17 : ¬ ((f (i + 6)).toInt < 0)) => ?_)
              · have H7 := own_H H6 cq17
                refine r_aloadN X (pc' := 72) d_stop_71 rfl rfl ?_
                refine r_iloadN X (pc' := 73) d_stop_72 rfl rfl ?_
                refine r_bipush X (pc' := 75) (v := (7 : Int32)) d_stop_73 rfl rfl ?_
                obtain ⟨s7, hs7⟩ : ∃ z, q1 + (7 : Int32) = z := ⟨_, rfl⟩
                have ks7 : s7.toInt = ((i + 7 : Nat) : Int) := by rw [← hs7, n_add hq1 (show (7 : Int32).toInt = 7 from rfl) (by omega) (by omega)]; omega
                refine r_iadd X (pc' := 76) (z := s7) d_stop_75 hs7 rfl ?_
                refine r_baload X (pc' := 77) (i := (i + 7)) (v := (f (i + 7))) d_stop_76 A1 ks7 (by omega) rfl rfl ?_
                refine r_if X (pc' := 83) (pc2 := 80) d_stop_77 (by decide) (by decide) rfl (a := (f (i + 7)).toInt) (b := 0) rfl rfl (fun (cq18 : (f (i + 7)).toInt < 0) => ?_) (fun (cq18 : ¬ ((f (i + 7)).toInt < 0)) => ?_)
                · have H8 := own_H H7 cq18
                  refine r_aloadN X (pc' := 84) d_stop_83 rfl rfl ?_
                  refine r_iloadN X (pc' := 85) d_stop_84 rfl rfl ?_
                  refine r_bipush X (pc' := 87) (v := (8 : Int32)) d_stop_85 rfl rfl ?_
                  obtain ⟨s8, hs8⟩ : ∃ z, q1 + (8 : Int32) = z := ⟨_, rfl⟩
                  have ks8 : s8.toInt = ((i + 8 : Nat) : Int) := by rw [← hs8, n_add hq1 (show (8 : Int32).toInt = 8 from rfl) (by omega) (by omega)]; omega
                  refine r_iadd X (pc' := 88) (z := s8) d_stop_87 hs8 rfl ?_
                  refine r_baload X (pc' := 89) (i := (i + 8)) (v := (f (i + 8))) d_stop_88 A1 ks8 (by omega) rfl rfl ?_
                  refine r_if X (pc' := 95) (pc2 := 92) d_stop_89 (by decide) (by decide) rfl (a := (f (i + 8)).toInt) (b := 0) rfl rfl (fun (cq19 : (f (i + 8)).toInt < 0) => ?_) (fun (cq19 : ¬ ((f (i + 8)).toInt < 0)) => ?_)
                  · have H9 := own_H H8 cq19
                    refine r_bipush X (pc' := 97) (v := (10 : Int32)) d_stop_95 rfl rfl ?_
                    exact r_retI X d_stop_97 ⟨⟨_, 10, rfl, rfl, by decide, by decide, fun j hj => H9 j (by omega), fun q => absurd q (by decide)⟩, rfl⟩ (by decide) (by decide)
                  · refine r_bipush X (pc' := 94) (v := (9 : Int32)) d_stop_92 rfl rfl ?_
                    exact r_retI X d_stop_94 ⟨⟨_, 9, rfl, rfl, by decide, by decide, fun j hj => H8 j (by omega), fun _ => by show 0 ≤ (f (i + 8)).toInt; omega⟩, rfl⟩ (by decide) (by decide)
                · refine r_bipush X (pc' := 82) (v := (8 : Int32)) d_stop_80 rfl rfl ?_
                  exact r_retI X d_stop_82 ⟨⟨_, 8, rfl, rfl, by decide, by decide, fun j hj => H7 j (by omega), fun _ => by show 0 ≤ (f (i + 7)).toInt; omega⟩, rfl⟩ (by decide) (by decide)
              · refine r_bipush X (pc' := 70) (v := (7 : Int32)) d_stop_68 rfl rfl ?_
                exact r_retI X d_stop_70 ⟨⟨_, 7, rfl, rfl, by decide, by decide, fun j hj => H6 j (by omega), fun _ => by show 0 ≤ (f (i + 6)).toInt; omega⟩, rfl⟩ (by decide) (by decide)
            · refine r_bipush X (pc' := 58) (v := (6 : Int32)) d_stop_56 rfl rfl ?_
              exact r_retI X d_stop_58 ⟨⟨_, 6, rfl, rfl, by decide, by decide, fun j hj => H5 j (by omega), fun _ => by show 0 ≤ (f (i + 5)).toInt; omega⟩, rfl⟩ (by decide) (by decide)
          · refine r_iconst X (pc' := 47) (v := (5 : Int32)) d_stop_46 rfl rfl ?_
            exact r_retI X d_stop_47 ⟨⟨_, 5, rfl, rfl, by decide, by decide, fun j hj => H4 j (by omega), fun _ => by show 0 ≤ (f (i + 4)).toInt; omega⟩, rfl⟩ (by decide) (by decide)
        · refine r_iconst X (pc' := 37) (v := (4 : Int32)) d_stop_36 rfl rfl ?_
          exact r_retI X d_stop_37 ⟨⟨_, 4, rfl, rfl, by decide, by decide, fun j hj => H3 j (by omega), fun _ => by show 0 ≤ (f (i + 3)).toInt; omega⟩, rfl⟩ (by decide) (by decide)
      · refine r_iconst X (pc' := 27) (v := (3 : Int32)) d_stop_26 rfl rfl ?_
        exact r_retI X d_stop_27 ⟨⟨_, 3, rfl, rfl, by decide, by decide, fun j hj => H2 j (by omega), fun _ => by show 0 ≤ (f (i + 2)).toInt; omega⟩, rfl⟩ (by decide) (by decide)
    · refine r_iconst X (pc' := 17) (v := (2 : Int32)) d_stop_16 rfl rfl ?_
      exact r_retI X d_stop_17 ⟨⟨_, 2, rfl, rfl, by decide, by decide, fun j hj => H1 j (by omega), fun _ => by show 0 ≤ (f (i + 1)).toInt; omega⟩, rfl⟩ (by decide) (by decide)
  · refine r_iconst X (pc' := 7) (v := (1 : Int32)) d_stop_6 rfl rfl ?_
    exact r_retI X d_stop_7 ⟨⟨_, 1, rfl, rfl, by decide, by decide, fun j hj => H0 j (by omega), fun _ => by show 0 ≤ (f (i + 0)).toInt; omega⟩, rfl⟩ (by decide) (by decide)
set_option maxRecDepth 65536 in
set_option maxHeartbeats 40000000 in
theorem con_val (l : Launch) (Z : State) (a0 : Array Value) (hw : ∀ d ∈ tables_1, d.before a0 Z = true) (t1 : Addr) (q1 q2 : Int32) (f : Nat → Int32) (i n : Nat) (h0 : Heap) (n0 : Nat) (Z0 : n0 ≤ h0.size) (A1 : Arf Z h0 t1 .byte 18 f) (hq1 : q1.toInt = i) (hi : i ≤ 9) (hq2 : q2.toInt = n) (hn1 : 1 ≤ n) (hn : n ≤ 10) : Con l Z (⟨"com/example/unigram_query_likelihood/unigramquerylikelihood/index/ArrayReaderNextPinLaw", "value", "([BII)J"⟩ : MethodName) method_3_code 5 (some .long) ({ frames := 0, cells := 0, slots := 0, locals := 0 } : Room) #[(.ref t1), (.int q1), (.int q2)] h0 n0 0 0 (fun v h => (∃ z : Int64, v = some (.long z) ∧ (n = 10 ∧ z.toInt = -1 ∨ n ≤ 9 ∧ z.toInt = own_S f i n)) ∧ h0 = h) := by
  refine Con.of_body (ls := #[.val (.ref t1), .val (.int q1), .val (.int q2), .unset, .unset]) pn_com_example_unigram_query_likelihood_unigramquerylikelihood_index_ArrayReaderNextPinLaw (fun m => by first | (simp [entryFrame, mkF, argsToLocals, Value.category]; done) | rfl) Z0 (fun p e s m below meth c T (X : Here p l e ({ frames := 0, cells := 0, slots := 0, locals := 0 } : Room) s m #[(.ref t1), (.int q1), (.int q2)] below meth c Z "com/example/unigram_query_likelihood/unigramquerylikelihood/index/ArrayReaderNextPinLaw" "value" method_3_code 5 (some .long) n0 T h0 0 0) => ?_)
  refine r_iloadN X (pc' := 1) d_value_0 rfl rfl ?_
  refine r_bipush X (pc' := 3) (v := (10 : Int32)) d_value_1 rfl rfl ?_
  refine r_icmp X (pc' := 10) (pc2 := 6) d_value_3 (by decide) (by decide) rfl (a := q2.toInt) (b := 10) rfl rfl (fun (cq20 : ¬ q2.toInt = 10) => ?_) (fun (cq20 : ¬ (¬ q2.toInt = 10)) => ?_)
  · have hn9 : n ≤ 9 := by omega
    have J9 : ∀ u : Int64, u.toInt = own_S f i (min n 9) → Run p e below (Fnl s n0 0 0 (fun v h => (∃ z : Int64, v = some (.long z) ∧ (n = 10 ∧ z.toInt = -1 ∨ n ≤ 9 ∧ z.toInt = own_S f i n)) ∧ h0 = h)) T (mkF m 192 #[.val (.ref t1), .val (.int q1), .val (.int q2), .val (.long u), .second] []) := by
      intro u hu
      refine r_lloadN X (pc' := 193) d_value_192 rfl rfl ?_
      exact r_retL X d_value_193 ⟨⟨_, rfl, Or.inr ⟨hn9, by rw [hu, Nat.min_eq_left hn9]⟩⟩, rfl⟩ (by decide) (by decide)
    have J8 : ∀ u : Int64, u.toInt = own_S f i (min n 8) → Run p e below (Fnl s n0 0 0 (fun v h => (∃ z : Int64, v = some (.long z) ∧ (n = 10 ∧ z.toInt = -1 ∨ n ≤ 9 ∧ z.toInt = own_S f i n)) ∧ h0 = h)) T (mkF m 170 #[.val (.ref t1), .val (.int q1), .val (.int q2), .val (.long u), .second] []) := by
      intro u hu
      refine r_iloadN X (pc' := 171) d_value_170 rfl rfl ?_
      refine r_bipush X (pc' := 173) (v := (8 : Int32)) d_value_171 rfl rfl ?_
      refine r_icmp X (pc' := 192) (pc2 := 176) d_value_173 (by decide) (by decide) rfl (a := q2.toInt) (b := 8) rfl rfl (fun (cq21 : q2.toInt ≤ 8) => ?_) (fun (cq21 : ¬ (q2.toInt ≤ 8)) => ?_)
      · exact J9 u (by rw [hu, show min n 8 = min n 9 by omega])
      · have e1 : min n 8 = 8 := by omega
        have e2 : min n 9 = 8 + 1 := by omega
        rw [e1] at hu
        obtain ⟨s8, hs8⟩ : ∃ z, q1 + (8 : Int32) = z := ⟨_, rfl⟩
        have ks8 : s8.toInt = ((i + 8 : Nat) : Int) := by rw [← hs8, n_add hq1 (show (8 : Int32).toInt = 8 from rfl) (by omega) (by omega)]; omega
        refine r_lloadN X (pc' := 177) d_value_176 rfl rfl ?_
        refine r_aloadN X (pc' := 178) d_value_177 rfl rfl ?_
        refine r_iloadN X (pc' := 179) d_value_178 rfl rfl ?_
        refine r_bipush X (pc' := 181) (v := (8 : Int32)) d_value_179 rfl rfl ?_
        refine r_iadd X (pc' := 182) (z := s8) d_value_181 hs8 rfl ?_
        refine r_baload X (pc' := 183) (i := (i + 8)) (v := (f (i + 8))) d_value_182 A1 ks8 (by omega) rfl rfl ?_
        refine r_bipush X (pc' := 185) (v := (127 : Int32)) d_value_183 rfl rfl ?_
        refine r_iand X (pc' := 186) (z := ((f (i + 8)) &&& (127 : Int32))) d_value_185 rfl rfl ?_
        refine r_i2l X (pc' := 187) (z := (((f (i + 8)) &&& (127 : Int32)).toInt64)) d_value_186 rfl rfl ?_
        refine r_bipush X (pc' := 189) (v := (56 : Int32)) d_value_187 rfl rfl ?_
        refine r_lshl X (pc' := 190) (z := ((((f (i + 8)) &&& (127 : Int32)).toInt64) <<< ((56 : Int32).toInt64 &&& 63))) d_value_189 rfl rfl ?_
        refine r_ladd X (pc' := 191) (z := (u + ((((f (i + 8)) &&& (127 : Int32)).toInt64) <<< ((56 : Int32).toInt64 &&& 63)))) d_value_190 rfl rfl ?_
        refine r_lstoreN X (pc' := 192) (ls' := #[.val (.ref t1), .val (.int q1), .val (.int q2), .val (.long (u + ((((f (i + 8)) &&& (127 : Int32)).toInt64) <<< ((56 : Int32).toInt64 &&& 63)))), .second]) d_value_191 rfl rfl ?_
        exact J9 (u + ((((f (i + 8)) &&& (127 : Int32)).toInt64) <<< ((56 : Int32).toInt64 &&& 63))) (by rw [own_add u _ hu (f (i + 8)) (56 : Int32) 8 rfl (by decide) (own_S_lt f i 8), e2]; rfl)
    have J7 : ∀ u : Int64, u.toInt = own_S f i (min n 7) → Run p e below (Fnl s n0 0 0 (fun v h => (∃ z : Int64, v = some (.long z) ∧ (n = 10 ∧ z.toInt = -1 ∨ n ≤ 9 ∧ z.toInt = own_S f i n)) ∧ h0 = h)) T (mkF m 148 #[.val (.ref t1), .val (.int q1), .val (.int q2), .val (.long u), .second] []) := by
      intro u hu
      refine r_iloadN X (pc' := 149) d_value_148 rfl rfl ?_
      refine r_bipush X (pc' := 151) (v := (7 : Int32)) d_value_149 rfl rfl ?_
      refine r_icmp X (pc' := 170) (pc2 := 154) d_value_151 (by decide) (by decide) rfl (a := q2.toInt) (b := 7) rfl rfl (fun (cq22 : q2.toInt ≤ 7) => ?_) (fun (cq22 : ¬ (q2.toInt ≤ 7)) => ?_)
      · exact J8 u (by rw [hu, show min n 7 = min n 8 by omega])
      · have e1 : min n 7 = 7 := by omega
        have e2 : min n 8 = 7 + 1 := by omega
        rw [e1] at hu
        obtain ⟨s7, hs7⟩ : ∃ z, q1 + (7 : Int32) = z := ⟨_, rfl⟩
        have ks7 : s7.toInt = ((i + 7 : Nat) : Int) := by rw [← hs7, n_add hq1 (show (7 : Int32).toInt = 7 from rfl) (by omega) (by omega)]; omega
        refine r_lloadN X (pc' := 155) d_value_154 rfl rfl ?_
        refine r_aloadN X (pc' := 156) d_value_155 rfl rfl ?_
        refine r_iloadN X (pc' := 157) d_value_156 rfl rfl ?_
        refine r_bipush X (pc' := 159) (v := (7 : Int32)) d_value_157 rfl rfl ?_
        refine r_iadd X (pc' := 160) (z := s7) d_value_159 hs7 rfl ?_
        refine r_baload X (pc' := 161) (i := (i + 7)) (v := (f (i + 7))) d_value_160 A1 ks7 (by omega) rfl rfl ?_
        refine r_bipush X (pc' := 163) (v := (127 : Int32)) d_value_161 rfl rfl ?_
        refine r_iand X (pc' := 164) (z := ((f (i + 7)) &&& (127 : Int32))) d_value_163 rfl rfl ?_
        refine r_i2l X (pc' := 165) (z := (((f (i + 7)) &&& (127 : Int32)).toInt64)) d_value_164 rfl rfl ?_
        refine r_bipush X (pc' := 167) (v := (49 : Int32)) d_value_165 rfl rfl ?_
        refine r_lshl X (pc' := 168) (z := ((((f (i + 7)) &&& (127 : Int32)).toInt64) <<< ((49 : Int32).toInt64 &&& 63))) d_value_167 rfl rfl ?_
        refine r_ladd X (pc' := 169) (z := (u + ((((f (i + 7)) &&& (127 : Int32)).toInt64) <<< ((49 : Int32).toInt64 &&& 63)))) d_value_168 rfl rfl ?_
        refine r_lstoreN X (pc' := 170) (ls' := #[.val (.ref t1), .val (.int q1), .val (.int q2), .val (.long (u + ((((f (i + 7)) &&& (127 : Int32)).toInt64) <<< ((49 : Int32).toInt64 &&& 63)))), .second]) d_value_169 rfl rfl ?_
        exact J8 (u + ((((f (i + 7)) &&& (127 : Int32)).toInt64) <<< ((49 : Int32).toInt64 &&& 63))) (by rw [own_add u _ hu (f (i + 7)) (49 : Int32) 7 rfl (by decide) (own_S_lt f i 7), e2]; rfl)
    have J6 : ∀ u : Int64, u.toInt = own_S f i (min n 6) → Run p e below (Fnl s n0 0 0 (fun v h => (∃ z : Int64, v = some (.long z) ∧ (n = 10 ∧ z.toInt = -1 ∨ n ≤ 9 ∧ z.toInt = own_S f i n)) ∧ h0 = h)) T (mkF m 126 #[.val (.ref t1), .val (.int q1), .val (.int q2), .val (.long u), .second] []) := by
      intro u hu
      refine r_iloadN X (pc' := 127) d_value_126 rfl rfl ?_
      refine r_bipush X (pc' := 129) (v := (6 : Int32)) d_value_127 rfl rfl ?_
      refine r_icmp X (pc' := 148) (pc2 := 132) d_value_129 (by decide) (by decide) rfl (a := q2.toInt) (b := 6) rfl rfl (fun (cq23 : q2.toInt ≤ 6) => ?_) (fun (cq23 : ¬ (q2.toInt ≤ 6)) => ?_)
      · exact J7 u (by rw [hu, show min n 6 = min n 7 by omega])
      · have e1 : min n 6 = 6 := by omega
        have e2 : min n 7 = 6 + 1 := by omega
        rw [e1] at hu
        obtain ⟨s6, hs6⟩ : ∃ z, q1 + (6 : Int32) = z := ⟨_, rfl⟩
        have ks6 : s6.toInt = ((i + 6 : Nat) : Int) := by rw [← hs6, n_add hq1 (show (6 : Int32).toInt = 6 from rfl) (by omega) (by omega)]; omega
        refine r_lloadN X (pc' := 133) d_value_132 rfl rfl ?_
        refine r_aloadN X (pc' := 134) d_value_133 rfl rfl ?_
        refine r_iloadN X (pc' := 135) d_value_134 rfl rfl ?_
        refine r_bipush X (pc' := 137) (v := (6 : Int32)) d_value_135 rfl rfl ?_
        refine r_iadd X (pc' := 138) (z := s6) d_value_137 hs6 rfl ?_
        refine r_baload X (pc' := 139) (i := (i + 6)) (v := (f (i + 6))) d_value_138 A1 ks6 (by omega) rfl rfl ?_
        refine r_bipush X (pc' := 141) (v := (127 : Int32)) d_value_139 rfl rfl ?_
        refine r_iand X (pc' := 142) (z := ((f (i + 6)) &&& (127 : Int32))) d_value_141 rfl rfl ?_
        refine r_i2l X (pc' := 143) (z := (((f (i + 6)) &&& (127 : Int32)).toInt64)) d_value_142 rfl rfl ?_
        refine r_bipush X (pc' := 145) (v := (42 : Int32)) d_value_143 rfl rfl ?_
        refine r_lshl X (pc' := 146) (z := ((((f (i + 6)) &&& (127 : Int32)).toInt64) <<< ((42 : Int32).toInt64 &&& 63))) d_value_145 rfl rfl ?_
        refine r_ladd X (pc' := 147) (z := (u + ((((f (i + 6)) &&& (127 : Int32)).toInt64) <<< ((42 : Int32).toInt64 &&& 63)))) d_value_146 rfl rfl ?_
        refine r_lstoreN X (pc' := 148) (ls' := #[.val (.ref t1), .val (.int q1), .val (.int q2), .val (.long (u + ((((f (i + 6)) &&& (127 : Int32)).toInt64) <<< ((42 : Int32).toInt64 &&& 63)))), .second]) d_value_147 rfl rfl ?_
        exact J7 (u + ((((f (i + 6)) &&& (127 : Int32)).toInt64) <<< ((42 : Int32).toInt64 &&& 63))) (by rw [own_add u _ hu (f (i + 6)) (42 : Int32) 6 rfl (by decide) (own_S_lt f i 6), e2]; rfl)
    have J5 : ∀ u : Int64, u.toInt = own_S f i (min n 5) → Run p e below (Fnl s n0 0 0 (fun v h => (∃ z : Int64, v = some (.long z) ∧ (n = 10 ∧ z.toInt = -1 ∨ n ≤ 9 ∧ z.toInt = own_S f i n)) ∧ h0 = h)) T (mkF m 106 #[.val (.ref t1), .val (.int q1), .val (.int q2), .val (.long u), .second] []) := by
      intro u hu
      refine r_iloadN X (pc' := 107) d_value_106 rfl rfl ?_
      refine r_iconst X (pc' := 108) (v := (5 : Int32)) d_value_107 rfl rfl ?_
      refine r_icmp X (pc' := 126) (pc2 := 111) d_value_108 (by decide) (by decide) rfl (a := q2.toInt) (b := 5) rfl rfl (fun (cq24 : q2.toInt ≤ 5) => ?_) (fun (cq24 : ¬ (q2.toInt ≤ 5)) => ?_)
      · exact J6 u (by rw [hu, show min n 5 = min n 6 by omega])
      · have e1 : min n 5 = 5 := by omega
        have e2 : min n 6 = 5 + 1 := by omega
        rw [e1] at hu
        obtain ⟨s5, hs5⟩ : ∃ z, q1 + (5 : Int32) = z := ⟨_, rfl⟩
        have ks5 : s5.toInt = ((i + 5 : Nat) : Int) := by rw [← hs5, n_add hq1 (show (5 : Int32).toInt = 5 from rfl) (by omega) (by omega)]; omega
        refine r_lloadN X (pc' := 112) d_value_111 rfl rfl ?_
        refine r_aloadN X (pc' := 113) d_value_112 rfl rfl ?_
        refine r_iloadN X (pc' := 114) d_value_113 rfl rfl ?_
        refine r_iconst X (pc' := 115) (v := (5 : Int32)) d_value_114 rfl rfl ?_
        refine r_iadd X (pc' := 116) (z := s5) d_value_115 hs5 rfl ?_
        refine r_baload X (pc' := 117) (i := (i + 5)) (v := (f (i + 5))) d_value_116 A1 ks5 (by omega) rfl rfl ?_
        refine r_bipush X (pc' := 119) (v := (127 : Int32)) d_value_117 rfl rfl ?_
        refine r_iand X (pc' := 120) (z := ((f (i + 5)) &&& (127 : Int32))) d_value_119 rfl rfl ?_
        refine r_i2l X (pc' := 121) (z := (((f (i + 5)) &&& (127 : Int32)).toInt64)) d_value_120 rfl rfl ?_
        refine r_bipush X (pc' := 123) (v := (35 : Int32)) d_value_121 rfl rfl ?_
        refine r_lshl X (pc' := 124) (z := ((((f (i + 5)) &&& (127 : Int32)).toInt64) <<< ((35 : Int32).toInt64 &&& 63))) d_value_123 rfl rfl ?_
        refine r_ladd X (pc' := 125) (z := (u + ((((f (i + 5)) &&& (127 : Int32)).toInt64) <<< ((35 : Int32).toInt64 &&& 63)))) d_value_124 rfl rfl ?_
        refine r_lstoreN X (pc' := 126) (ls' := #[.val (.ref t1), .val (.int q1), .val (.int q2), .val (.long (u + ((((f (i + 5)) &&& (127 : Int32)).toInt64) <<< ((35 : Int32).toInt64 &&& 63)))), .second]) d_value_125 rfl rfl ?_
        exact J6 (u + ((((f (i + 5)) &&& (127 : Int32)).toInt64) <<< ((35 : Int32).toInt64 &&& 63))) (by rw [own_add u _ hu (f (i + 5)) (35 : Int32) 5 rfl (by decide) (own_S_lt f i 5), e2]; rfl)
    have J4 : ∀ u : Int64, u.toInt = own_S f i (min n 4) → Run p e below (Fnl s n0 0 0 (fun v h => (∃ z : Int64, v = some (.long z) ∧ (n = 10 ∧ z.toInt = -1 ∨ n ≤ 9 ∧ z.toInt = own_S f i n)) ∧ h0 = h)) T (mkF m 86 #[.val (.ref t1), .val (.int q1), .val (.int q2), .val (.long u), .second] []) := by
      intro u hu
      refine r_iloadN X (pc' := 87) d_value_86 rfl rfl ?_
      refine r_iconst X (pc' := 88) (v := (4 : Int32)) d_value_87 rfl rfl ?_
      refine r_icmp X (pc' := 106) (pc2 := 91) d_value_88 (by decide) (by decide) rfl (a := q2.toInt) (b := 4) rfl rfl (fun (cq25 : q2.toInt ≤ 4) => ?_) (fun (cq25 : ¬ (q2.toInt ≤ 4)) => ?_)
      · exact J5 u (by rw [hu, show min n 4 = min n 5 by omega])
      · have e1 : min n 4 = 4 := by omega
        have e2 : min n 5 = 4 + 1 := by omega
        rw [e1] at hu
        obtain ⟨s4, hs4⟩ : ∃ z, q1 + (4 : Int32) = z := ⟨_, rfl⟩
        have ks4 : s4.toInt = ((i + 4 : Nat) : Int) := by rw [← hs4, n_add hq1 (show (4 : Int32).toInt = 4 from rfl) (by omega) (by omega)]; omega
        refine r_lloadN X (pc' := 92) d_value_91 rfl rfl ?_
        refine r_aloadN X (pc' := 93) d_value_92 rfl rfl ?_
        refine r_iloadN X (pc' := 94) d_value_93 rfl rfl ?_
        refine r_iconst X (pc' := 95) (v := (4 : Int32)) d_value_94 rfl rfl ?_
        refine r_iadd X (pc' := 96) (z := s4) d_value_95 hs4 rfl ?_
        refine r_baload X (pc' := 97) (i := (i + 4)) (v := (f (i + 4))) d_value_96 A1 ks4 (by omega) rfl rfl ?_
        refine r_bipush X (pc' := 99) (v := (127 : Int32)) d_value_97 rfl rfl ?_
        refine r_iand X (pc' := 100) (z := ((f (i + 4)) &&& (127 : Int32))) d_value_99 rfl rfl ?_
        refine r_i2l X (pc' := 101) (z := (((f (i + 4)) &&& (127 : Int32)).toInt64)) d_value_100 rfl rfl ?_
        refine r_bipush X (pc' := 103) (v := (28 : Int32)) d_value_101 rfl rfl ?_
        refine r_lshl X (pc' := 104) (z := ((((f (i + 4)) &&& (127 : Int32)).toInt64) <<< ((28 : Int32).toInt64 &&& 63))) d_value_103 rfl rfl ?_
        refine r_ladd X (pc' := 105) (z := (u + ((((f (i + 4)) &&& (127 : Int32)).toInt64) <<< ((28 : Int32).toInt64 &&& 63)))) d_value_104 rfl rfl ?_
        refine r_lstoreN X (pc' := 106) (ls' := #[.val (.ref t1), .val (.int q1), .val (.int q2), .val (.long (u + ((((f (i + 4)) &&& (127 : Int32)).toInt64) <<< ((28 : Int32).toInt64 &&& 63)))), .second]) d_value_105 rfl rfl ?_
        exact J5 (u + ((((f (i + 4)) &&& (127 : Int32)).toInt64) <<< ((28 : Int32).toInt64 &&& 63))) (by rw [own_add u _ hu (f (i + 4)) (28 : Int32) 4 rfl (by decide) (own_S_lt f i 4), e2]; rfl)
    have J3 : ∀ u : Int64, u.toInt = own_S f i (min n 3) → Run p e below (Fnl s n0 0 0 (fun v h => (∃ z : Int64, v = some (.long z) ∧ (n = 10 ∧ z.toInt = -1 ∨ n ≤ 9 ∧ z.toInt = own_S f i n)) ∧ h0 = h)) T (mkF m 66 #[.val (.ref t1), .val (.int q1), .val (.int q2), .val (.long u), .second] []) := by
      intro u hu
      refine r_iloadN X (pc' := 67) d_value_66 rfl rfl ?_
      refine r_iconst X (pc' := 68) (v := (3 : Int32)) d_value_67 rfl rfl ?_
      refine r_icmp X (pc' := 86) (pc2 := 71) d_value_68 (by decide) (by decide) rfl (a := q2.toInt) (b := 3) rfl rfl (fun (cq26 : q2.toInt ≤ 3) => ?_) (fun (cq26 : ¬ (q2.toInt ≤ 3)) => ?_)
      · exact J4 u (by rw [hu, show min n 3 = min n 4 by omega])
      · have e1 : min n 3 = 3 := by omega
        have e2 : min n 4 = 3 + 1 := by omega
        rw [e1] at hu
        obtain ⟨s3, hs3⟩ : ∃ z, q1 + (3 : Int32) = z := ⟨_, rfl⟩
        have ks3 : s3.toInt = ((i + 3 : Nat) : Int) := by rw [← hs3, n_add hq1 (show (3 : Int32).toInt = 3 from rfl) (by omega) (by omega)]; omega
        refine r_lloadN X (pc' := 72) d_value_71 rfl rfl ?_
        refine r_aloadN X (pc' := 73) d_value_72 rfl rfl ?_
        refine r_iloadN X (pc' := 74) d_value_73 rfl rfl ?_
        refine r_iconst X (pc' := 75) (v := (3 : Int32)) d_value_74 rfl rfl ?_
        refine r_iadd X (pc' := 76) (z := s3) d_value_75 hs3 rfl ?_
        refine r_baload X (pc' := 77) (i := (i + 3)) (v := (f (i + 3))) d_value_76 A1 ks3 (by omega) rfl rfl ?_
        refine r_bipush X (pc' := 79) (v := (127 : Int32)) d_value_77 rfl rfl ?_
        refine r_iand X (pc' := 80) (z := ((f (i + 3)) &&& (127 : Int32))) d_value_79 rfl rfl ?_
        refine r_i2l X (pc' := 81) (z := (((f (i + 3)) &&& (127 : Int32)).toInt64)) d_value_80 rfl rfl ?_
        refine r_bipush X (pc' := 83) (v := (21 : Int32)) d_value_81 rfl rfl ?_
        refine r_lshl X (pc' := 84) (z := ((((f (i + 3)) &&& (127 : Int32)).toInt64) <<< ((21 : Int32).toInt64 &&& 63))) d_value_83 rfl rfl ?_
        refine r_ladd X (pc' := 85) (z := (u + ((((f (i + 3)) &&& (127 : Int32)).toInt64) <<< ((21 : Int32).toInt64 &&& 63)))) d_value_84 rfl rfl ?_
        refine r_lstoreN X (pc' := 86) (ls' := #[.val (.ref t1), .val (.int q1), .val (.int q2), .val (.long (u + ((((f (i + 3)) &&& (127 : Int32)).toInt64) <<< ((21 : Int32).toInt64 &&& 63)))), .second]) d_value_85 rfl rfl ?_
        exact J4 (u + ((((f (i + 3)) &&& (127 : Int32)).toInt64) <<< ((21 : Int32).toInt64 &&& 63))) (by rw [own_add u _ hu (f (i + 3)) (21 : Int32) 3 rfl (by decide) (own_S_lt f i 3), e2]; rfl)
    have J2 : ∀ u : Int64, u.toInt = own_S f i (min n 2) → Run p e below (Fnl s n0 0 0 (fun v h => (∃ z : Int64, v = some (.long z) ∧ (n = 10 ∧ z.toInt = -1 ∨ n ≤ 9 ∧ z.toInt = own_S f i n)) ∧ h0 = h)) T (mkF m 46 #[.val (.ref t1), .val (.int q1), .val (.int q2), .val (.long u), .second] []) := by
      intro u hu
      refine r_iloadN X (pc' := 47) d_value_46 rfl rfl ?_
      refine r_iconst X (pc' := 48) (v := (2 : Int32)) d_value_47 rfl rfl ?_
      refine r_icmp X (pc' := 66) (pc2 := 51) d_value_48 (by decide) (by decide) rfl (a := q2.toInt) (b := 2) rfl rfl (fun (cq27 : q2.toInt ≤ 2) => ?_) (fun (cq27 : ¬ (q2.toInt ≤ 2)) => ?_)
      · exact J3 u (by rw [hu, show min n 2 = min n 3 by omega])
      · have e1 : min n 2 = 2 := by omega
        have e2 : min n 3 = 2 + 1 := by omega
        rw [e1] at hu
        obtain ⟨s2, hs2⟩ : ∃ z, q1 + (2 : Int32) = z := ⟨_, rfl⟩
        have ks2 : s2.toInt = ((i + 2 : Nat) : Int) := by rw [← hs2, n_add hq1 (show (2 : Int32).toInt = 2 from rfl) (by omega) (by omega)]; omega
        refine r_lloadN X (pc' := 52) d_value_51 rfl rfl ?_
        refine r_aloadN X (pc' := 53) d_value_52 rfl rfl ?_
        refine r_iloadN X (pc' := 54) d_value_53 rfl rfl ?_
        refine r_iconst X (pc' := 55) (v := (2 : Int32)) d_value_54 rfl rfl ?_
        refine r_iadd X (pc' := 56) (z := s2) d_value_55 hs2 rfl ?_
        refine r_baload X (pc' := 57) (i := (i + 2)) (v := (f (i + 2))) d_value_56 A1 ks2 (by omega) rfl rfl ?_
        refine r_bipush X (pc' := 59) (v := (127 : Int32)) d_value_57 rfl rfl ?_
        refine r_iand X (pc' := 60) (z := ((f (i + 2)) &&& (127 : Int32))) d_value_59 rfl rfl ?_
        refine r_i2l X (pc' := 61) (z := (((f (i + 2)) &&& (127 : Int32)).toInt64)) d_value_60 rfl rfl ?_
        refine r_bipush X (pc' := 63) (v := (14 : Int32)) d_value_61 rfl rfl ?_
        refine r_lshl X (pc' := 64) (z := ((((f (i + 2)) &&& (127 : Int32)).toInt64) <<< ((14 : Int32).toInt64 &&& 63))) d_value_63 rfl rfl ?_
        refine r_ladd X (pc' := 65) (z := (u + ((((f (i + 2)) &&& (127 : Int32)).toInt64) <<< ((14 : Int32).toInt64 &&& 63)))) d_value_64 rfl rfl ?_
        refine r_lstoreN X (pc' := 66) (ls' := #[.val (.ref t1), .val (.int q1), .val (.int q2), .val (.long (u + ((((f (i + 2)) &&& (127 : Int32)).toInt64) <<< ((14 : Int32).toInt64 &&& 63)))), .second]) d_value_65 rfl rfl ?_
        exact J3 (u + ((((f (i + 2)) &&& (127 : Int32)).toInt64) <<< ((14 : Int32).toInt64 &&& 63))) (by rw [own_add u _ hu (f (i + 2)) (14 : Int32) 2 rfl (by decide) (own_S_lt f i 2), e2]; rfl)
    have J1 : ∀ u : Int64, u.toInt = own_S f i (min n 1) → Run p e below (Fnl s n0 0 0 (fun v h => (∃ z : Int64, v = some (.long z) ∧ (n = 10 ∧ z.toInt = -1 ∨ n ≤ 9 ∧ z.toInt = own_S f i n)) ∧ h0 = h)) T (mkF m 26 #[.val (.ref t1), .val (.int q1), .val (.int q2), .val (.long u), .second] []) := by
      intro u hu
      refine r_iloadN X (pc' := 27) d_value_26 rfl rfl ?_
      refine r_iconst X (pc' := 28) (v := (1 : Int32)) d_value_27 rfl rfl ?_
      refine r_icmp X (pc' := 46) (pc2 := 31) d_value_28 (by decide) (by decide) rfl (a := q2.toInt) (b := 1) rfl rfl (fun (cq28 : q2.toInt ≤ 1) => ?_) (fun (cq28 : ¬ (q2.toInt ≤ 1)) => ?_)
      · exact J2 u (by rw [hu, show min n 1 = min n 2 by omega])
      · have e1 : min n 1 = 1 := by omega
        have e2 : min n 2 = 1 + 1 := by omega
        rw [e1] at hu
        obtain ⟨s1, hs1⟩ : ∃ z, q1 + (1 : Int32) = z := ⟨_, rfl⟩
        have ks1 : s1.toInt = ((i + 1 : Nat) : Int) := by rw [← hs1, n_add hq1 (show (1 : Int32).toInt = 1 from rfl) (by omega) (by omega)]; omega
        refine r_lloadN X (pc' := 32) d_value_31 rfl rfl ?_
        refine r_aloadN X (pc' := 33) d_value_32 rfl rfl ?_
        refine r_iloadN X (pc' := 34) d_value_33 rfl rfl ?_
        refine r_iconst X (pc' := 35) (v := (1 : Int32)) d_value_34 rfl rfl ?_
        refine r_iadd X (pc' := 36) (z := s1) d_value_35 hs1 rfl ?_
        refine r_baload X (pc' := 37) (i := (i + 1)) (v := (f (i + 1))) d_value_36 A1 ks1 (by omega) rfl rfl ?_
        refine r_bipush X (pc' := 39) (v := (127 : Int32)) d_value_37 rfl rfl ?_
        refine r_iand X (pc' := 40) (z := ((f (i + 1)) &&& (127 : Int32))) d_value_39 rfl rfl ?_
        refine r_i2l X (pc' := 41) (z := (((f (i + 1)) &&& (127 : Int32)).toInt64)) d_value_40 rfl rfl ?_
        refine r_bipush X (pc' := 43) (v := (7 : Int32)) d_value_41 rfl rfl ?_
        refine r_lshl X (pc' := 44) (z := ((((f (i + 1)) &&& (127 : Int32)).toInt64) <<< ((7 : Int32).toInt64 &&& 63))) d_value_43 rfl rfl ?_
        refine r_ladd X (pc' := 45) (z := (u + ((((f (i + 1)) &&& (127 : Int32)).toInt64) <<< ((7 : Int32).toInt64 &&& 63)))) d_value_44 rfl rfl ?_
        refine r_lstoreN X (pc' := 46) (ls' := #[.val (.ref t1), .val (.int q1), .val (.int q2), .val (.long (u + ((((f (i + 1)) &&& (127 : Int32)).toInt64) <<< ((7 : Int32).toInt64 &&& 63)))), .second]) d_value_45 rfl rfl ?_
        exact J2 (u + ((((f (i + 1)) &&& (127 : Int32)).toInt64) <<< ((7 : Int32).toInt64 &&& 63))) (by rw [own_add u _ hu (f (i + 1)) (7 : Int32) 1 rfl (by decide) (own_S_lt f i 1), e2]; rfl)
    refine r_lconst X (pc' := 11) (v := (0 : Int64)) d_value_10 rfl rfl ?_
    refine r_lstoreN X (pc' := 12) (ls' := #[.val (.ref t1), .val (.int q1), .val (.int q2), .val (.long (0 : Int64)), .second]) d_value_11 rfl rfl ?_
    refine r_iloadN X (pc' := 13) d_value_12 rfl rfl ?_
    refine r_ifN X (pc2 := 16) d_value_13 (by decide) rfl (a := q2.toInt) (b := 0) rfl rfl (show ¬ (q2.toInt ≤ 0) from (by omega)) ?_
    refine r_lloadN X (pc' := 17) d_value_16 rfl rfl ?_
    refine r_aloadN X (pc' := 18) d_value_17 rfl rfl ?_
    refine r_iloadN X (pc' := 19) d_value_18 rfl rfl ?_
    refine r_baload X (pc' := 20) (i := i) (v := (f i)) d_value_19 A1 hq1 (by omega) rfl rfl ?_
    refine r_bipush X (pc' := 22) (v := (127 : Int32)) d_value_20 rfl rfl ?_
    refine r_iand X (pc' := 23) (z := ((f i) &&& (127 : Int32))) d_value_22 rfl rfl ?_
    refine r_i2l X (pc' := 24) (z := (((f i) &&& (127 : Int32)).toInt64)) d_value_23 rfl rfl ?_
    refine r_ladd X (pc' := 25) (z := ((0 : Int64) + (((f i) &&& (127 : Int32)).toInt64))) d_value_24 rfl rfl ?_
    refine r_lstoreN X (pc' := 26) (ls' := #[.val (.ref t1), .val (.int q1), .val (.int q2), .val (.long ((0 : Int64) + (((f i) &&& (127 : Int32)).toInt64))), .second]) d_value_25 rfl rfl ?_
    exact J1 ((0 : Int64) + (((f i) &&& (127 : Int32)).toInt64)) (by rw [own_add0, show min n 1 = 0 + 1 by omega]; show _ = ((0 + _ * 2 ^ (7 * 0) : Nat) : Int); simp)
  · refine r_ldc2J X (pc' := 9) (v := (-1 : Int64)) d_value_6 (wd hw 31 rfl) rfl ?_
    exact r_retL X d_value_9 ⟨⟨_, rfl, Or.inl ⟨by omega, rfl⟩⟩, rfl⟩ (by decide) (by decide)
set_option maxRecDepth 65536 in
set_option maxHeartbeats 40000000 in
theorem con_next (l : Launch) (Z : State) (a0 : Array Value) (hw : ∀ d ∈ tables_1, d.before a0 Z = true) (a1 t1 : Addr) (q0 : Int32) (f : Nat → Int32) (i : Nat) (h0 : Heap) (n0 : Nat) (Z0 : n0 ≤ h0.size) (E0 : Exa Z h0 a1 "com/example/unigram_query_likelihood/unigramquerylikelihood/index/Varint$ArrayReader") (F0 : Fld Z h0 a1 "com/example/unigram_query_likelihood/unigramquerylikelihood/index/Varint$ArrayReader" "bytes" "[B" (.ref t1)) (G0 : Fld Z h0 a1 "com/example/unigram_query_likelihood/unigramquerylikelihood/index/Varint$ArrayReader" "position" "I" (.int q0)) (A0 : Arf Z h0 t1 .byte 18 f) (ne0 : t1 ≠ a1) (g1 : n0 ≤ a1) (hq0 : q0.toInt = i) (hi : i ≤ 9) : Con l Z (⟨"com/example/unigram_query_likelihood/unigramquerylikelihood/index/Varint$ArrayReader", "next", "()J"⟩ : MethodName) prog_85_method_3_code 5 (some .long) ({ frames := 0, cells := 0, slots := 0, locals := 0 } : Room) #[(.ref a1)] h0 n0 0 0 (fun v h => ∃ (z : Int64) (n : Nat) (q : Int32), v = some (.long z) ∧ Keep h0 h [a1] ∧ Fld Z h a1 "com/example/unigram_query_likelihood/unigramquerylikelihood/index/Varint$ArrayReader" "bytes" "[B" (.ref t1) ∧ own_T f i n ∧ (n = 10 ∧ z.toInt = -1 ∨ n ≤ 9 ∧ z.toInt = own_S f i n) ∧ Fld Z h a1 "com/example/unigram_query_likelihood/unigramquerylikelihood/index/Varint$ArrayReader" "position" "I" (.int q) ∧ q.toInt = ((i + min n 9 : Nat) : Int)) := by
  refine Con.of_body (ls := #[.val (.ref a1), .unset, .unset, .unset, .unset]) pn_com_example_unigram_query_likelihood_unigramquerylikelihood_index_Varint_ArrayReader (fun m => by first | (simp [entryFrame, mkF, argsToLocals, Value.category]; done) | rfl) Z0 (fun p e s m below meth c T (X : Here p l e ({ frames := 0, cells := 0, slots := 0, locals := 0 } : Room) s m #[(.ref a1)] below meth c Z "com/example/unigram_query_likelihood/unigramquerylikelihood/index/Varint$ArrayReader" "next" prog_85_method_3_code 5 (some .long) n0 T h0 0 0) => ?_)
  have LL : ∀ (d k : Nat) (q sh : Int32) (u : Int64) (s4 : Slot) (T : State) (h : Heap), k + d = 9 → q.toInt = ((i + k : Nat) : Int) → sh.toInt = ((7 * k : Nat) : Int) → u.toInt = own_S f i k → (s4 = .unset ∨ ∃ w, s4 = .val (.int w)) → Here p l e ({ frames := 0, cells := 0, slots := 0, locals := 0 } : Room) s m #[(.ref a1)] below meth c Z "com/example/unigram_query_likelihood/unigramquerylikelihood/index/Varint$ArrayReader" "next" prog_85_method_3_code 5 (some .long) n0 T h 0 0 → Keep h0 h [a1] → Exa Z h a1 "com/example/unigram_query_likelihood/unigramquerylikelihood/index/Varint$ArrayReader" → Fld Z h a1 "com/example/unigram_query_likelihood/unigramquerylikelihood/index/Varint$ArrayReader" "bytes" "[B" (.ref t1) → Fld Z h a1 "com/example/unigram_query_likelihood/unigramquerylikelihood/index/Varint$ArrayReader" "position" "I" (.int q) → Arf Z h t1 .byte 18 f → (∀ j, j < k → (f (i + j)).toInt < 0) → Run p e below (Fnl s n0 0 0 (fun v h => ∃ (z : Int64) (n : Nat) (q : Int32), v = some (.long z) ∧ Keep h0 h [a1] ∧ Fld Z h a1 "com/example/unigram_query_likelihood/unigramquerylikelihood/index/Varint$ArrayReader" "bytes" "[B" (.ref t1) ∧ own_T f i n ∧ (n = 10 ∧ z.toInt = -1 ∨ n ≤ 9 ∧ z.toInt = own_S f i n) ∧ Fld Z h a1 "com/example/unigram_query_likelihood/unigramquerylikelihood/index/Varint$ArrayReader" "position" "I" (.int q) ∧ q.toInt = ((i + min n 9 : Nat) : Int))) T (mkF m 4 #[.val (.ref a1), .val (.long u), .second, .val (.int sh), s4] []) := by
    intro d
    induction d with
    | zero =>
      intro k q sh u s4 T h hd hq hsh hu hs4 X K E F G A H
      refine r_iloadN X (pc' := 5) d_next_4 rfl rfl ?_
      refine r_bipush X (pc' := 7) (v := (63 : Int32)) d_next_5 rfl rfl ?_
      refine r_icmpY X (pc' := 72) d_next_7 (by decide) (by decide) (a := sh.toInt) (b := 63) rfl rfl (show 63 ≤ sh.toInt from (by omega)) ?_
      have k9 : k = 9 := by omega
      subst k9
      refine r_ldc2J X (pc' := 75) (v := (-1 : Int64)) d_next_72 (wd hw 32 rfl) rfl ?_
      exact r_retL X d_next_75 ⟨_, 10, q, rfl, K, F, ⟨by decide, by decide, fun j hj => H j (by omega), fun w => absurd w (by decide)⟩, Or.inl ⟨rfl, rfl⟩, G, by rw [hq]; rfl⟩ (by decide) (by decide)
    | succ d ih =>
      intro k q sh u s4 T h hd hq hsh hu hs4 X K E F G A H
      refine r_iloadN X (pc' := 5) d_next_4 rfl rfl ?_
      refine r_bipush X (pc' := 7) (v := (63 : Int32)) d_next_5 rfl rfl ?_
      refine r_icmpN X (pc2 := 10) d_next_7 (by decide) rfl (a := sh.toInt) (b := 63) rfl rfl (show ¬ (63 ≤ sh.toInt) from (by omega)) ?_
      rcases hs4 with rfl | ⟨w4, rfl⟩
      · refine r_aloadN X (pc' := 11) d_next_10 rfl rfl ?_
        refine r_getfield X (pc' := 14) d_next_11 (wd hw 24 rfl) G rfl (fun T29 X30 => ?_)
        refine r_aloadN X30 (pc' := 15) d_next_14 rfl rfl ?_
        refine r_getfield X30 (pc' := 18) d_next_15 (wd hw 17 rfl) F rfl (fun T31 X32 => ?_)
        refine r_arraylength X32 (pc' := 19) (v := (18 : Int32)) d_next_18 A rfl rfl ?_
        refine r_icmpY X32 (pc' := 30) d_next_19 (by decide) (by decide) (a := q.toInt) (b := 18) rfl rfl (show ¬ q.toInt = 18 from (by omega)) ?_
        obtain ⟨q2, hq2⟩ : ∃ y, q + (1 : Int32) = y := ⟨_, rfl⟩
        have kq2 : q2.toInt = ((i + (k + 1) : Nat) : Int) := by rw [← hq2, n_add hq (show (1 : Int32).toInt = 1 from rfl) (by omega) (by omega)]; omega
        obtain ⟨sh2, hsh2⟩ : ∃ y, sh + (7 : Int32) = y := ⟨_, rfl⟩
        have ksh2 : sh2.toInt = ((7 * (k + 1) : Nat) : Int) := by rw [← hsh2, n_add hsh (show (7 : Int32).toInt = 7 from rfl) (by omega) (by omega)]; omega
        refine r_aloadN X32 (pc' := 31) d_next_30 rfl rfl ?_
        refine r_getfield X32 (pc' := 34) d_next_31 (wd hw 17 rfl) F rfl (fun T33 X34 => ?_)
        refine r_aloadN X34 (pc' := 35) d_next_34 rfl rfl ?_
        refine r_dup X34 (pc' := 36) d_next_35 rfl rfl ?_
        refine r_getfield X34 (pc' := 39) d_next_36 (wd hw 24 rfl) G rfl (fun T35 X36 => ?_)
        refine r_dupX1 X36 (pc' := 40) d_next_39 rfl rfl rfl ?_
        refine r_iconst X36 (pc' := 41) (v := (1 : Int32)) d_next_40 rfl rfl ?_
        refine r_iadd X36 (pc' := 42) (z := q2) d_next_41 hq2 rfl ?_
        refine r_putfield X36 (pc' := 45) (ty := .int) d_next_42 (wd hw 24 rfl) G E (Or.inl (wd hw 25 rfl)) (wd hw 9 rfl) (by decide) rfl rfl g1 rfl (fun T37 h38 X39 W40 => ?_)
        have f41 := E.wr W40
        have f42 := F.other W40 (Or.inr (slot_ne (C := "com/example/unigram_query_likelihood/unigramquerylikelihood/index/Varint$ArrayReader") (Or.inr (wd hw 18 rfl)) (Or.inl (wd hw 25 rfl)) (by decide) (t := (.array .byte)) (t' := .int) (by decide) (by decide)))
        have f43 := G.same W40
        have f44 := A.other W40 ne0
        have K45 := K.wr W40 (Or.inl (List.mem_of_getElem? (i := 0) rfl))
        refine r_baload X39 (pc' := 46) (i := (i + k)) (v := (f (i + k))) d_next_45 f44 hq (by omega) rfl rfl ?_
        refine r_istore X39 (pc' := 48) (ls' := #[.val (.ref a1), .val (.long u), .second, .val (.int sh), .val (.int (f (i + k)))]) d_next_46 rfl rfl ?_
        refine r_lloadN X39 (pc' := 49) d_next_48 rfl rfl ?_
        refine r_iload X39 (pc' := 51) d_next_49 rfl rfl ?_
        refine r_bipush X39 (pc' := 53) (v := (127 : Int32)) d_next_51 rfl rfl ?_
        refine r_iand X39 (pc' := 54) (z := ((f (i + k)) &&& (127 : Int32))) d_next_53 rfl rfl ?_
        refine r_i2l X39 (pc' := 55) (z := (((f (i + k)) &&& (127 : Int32)).toInt64)) d_next_54 rfl rfl ?_
        refine r_iloadN X39 (pc' := 56) d_next_55 rfl rfl ?_
        refine r_lshl X39 (pc' := 57) (z := ((((f (i + k)) &&& (127 : Int32)).toInt64) <<< (sh.toInt64 &&& 63))) d_next_56 rfl rfl ?_
        have kac := own_or u _ hu (f (i + k)) sh k hsh (by omega) (own_S_lt f i k)
        obtain ⟨u2, hu2⟩ : ∃ y, (u ||| (((f (i + k)) &&& (127 : Int32)).toInt64 <<< (sh.toInt64 &&& 63))) = y := ⟨_, rfl⟩
        rw [hu2] at kac
        refine r_lor X39 (pc' := 58) (z := u2) d_next_57 hu2 rfl ?_
        refine r_lstoreN X39 (pc' := 59) (ls' := #[.val (.ref a1), .val (.long u2), .second, .val (.int sh), .val (.int (f (i + k)))]) d_next_58 rfl rfl ?_
        refine r_iload X39 (pc' := 61) d_next_59 rfl rfl ?_
        refine r_if X39 (pc' := 66) (pc2 := 64) d_next_61 (by decide) (by decide) rfl (a := (f (i + k)).toInt) (b := 0) rfl rfl (fun (cq46 : (f (i + k)).toInt < 0) => ?_) (fun (cq46 : ¬ ((f (i + k)).toInt < 0)) => ?_)
        · refine r_iinc X39 (pc' := 69) (z := sh2) (ls' := #[.val (.ref a1), .val (.long u2), .second, .val (.int sh2), .val (.int (f (i + k)))]) d_next_66 rfl hsh2 rfl rfl ?_
          refine r_goto X39 (pc' := 4) d_next_69 (by decide) (by decide) ?_
          exact ih (k + 1) q2 sh2 u2 _ _ _ (by omega) kq2 ksh2 kac (Or.inr ⟨_, rfl⟩) X39 K45 f41 f42 f43 f44 (own_H H cq46)
        · refine r_lloadN X39 (pc' := 65) d_next_64 rfl rfl ?_
          exact r_retL X39 d_next_65 ⟨_, k + 1, q2, rfl, K45, f42, ⟨by omega, by omega, fun j hj => H j (by omega), fun _ => by show 0 ≤ (f (i + k)).toInt; omega⟩, Or.inr ⟨by omega, kac⟩, f43, by rw [kq2, show min (k + 1) 9 = k + 1 by omega]⟩ (by decide) (by decide)
      · refine r_aloadN X (pc' := 11) d_next_10 rfl rfl ?_
        refine r_getfield X (pc' := 14) d_next_11 (wd hw 24 rfl) G rfl (fun T47 X48 => ?_)
        refine r_aloadN X48 (pc' := 15) d_next_14 rfl rfl ?_
        refine r_getfield X48 (pc' := 18) d_next_15 (wd hw 17 rfl) F rfl (fun T49 X50 => ?_)
        refine r_arraylength X50 (pc' := 19) (v := (18 : Int32)) d_next_18 A rfl rfl ?_
        refine r_icmpY X50 (pc' := 30) d_next_19 (by decide) (by decide) (a := q.toInt) (b := 18) rfl rfl (show ¬ q.toInt = 18 from (by omega)) ?_
        obtain ⟨q2, hq2⟩ : ∃ y, q + (1 : Int32) = y := ⟨_, rfl⟩
        have kq2 : q2.toInt = ((i + (k + 1) : Nat) : Int) := by rw [← hq2, n_add hq (show (1 : Int32).toInt = 1 from rfl) (by omega) (by omega)]; omega
        obtain ⟨sh2, hsh2⟩ : ∃ y, sh + (7 : Int32) = y := ⟨_, rfl⟩
        have ksh2 : sh2.toInt = ((7 * (k + 1) : Nat) : Int) := by rw [← hsh2, n_add hsh (show (7 : Int32).toInt = 7 from rfl) (by omega) (by omega)]; omega
        refine r_aloadN X50 (pc' := 31) d_next_30 rfl rfl ?_
        refine r_getfield X50 (pc' := 34) d_next_31 (wd hw 17 rfl) F rfl (fun T51 X52 => ?_)
        refine r_aloadN X52 (pc' := 35) d_next_34 rfl rfl ?_
        refine r_dup X52 (pc' := 36) d_next_35 rfl rfl ?_
        refine r_getfield X52 (pc' := 39) d_next_36 (wd hw 24 rfl) G rfl (fun T53 X54 => ?_)
        refine r_dupX1 X54 (pc' := 40) d_next_39 rfl rfl rfl ?_
        refine r_iconst X54 (pc' := 41) (v := (1 : Int32)) d_next_40 rfl rfl ?_
        refine r_iadd X54 (pc' := 42) (z := q2) d_next_41 hq2 rfl ?_
        refine r_putfield X54 (pc' := 45) (ty := .int) d_next_42 (wd hw 24 rfl) G E (Or.inl (wd hw 25 rfl)) (wd hw 9 rfl) (by decide) rfl rfl g1 rfl (fun T55 h56 X57 W58 => ?_)
        have f59 := E.wr W58
        have f60 := F.other W58 (Or.inr (slot_ne (C := "com/example/unigram_query_likelihood/unigramquerylikelihood/index/Varint$ArrayReader") (Or.inr (wd hw 18 rfl)) (Or.inl (wd hw 25 rfl)) (by decide) (t := (.array .byte)) (t' := .int) (by decide) (by decide)))
        have f61 := G.same W58
        have f62 := A.other W58 ne0
        have K63 := K.wr W58 (Or.inl (List.mem_of_getElem? (i := 0) rfl))
        refine r_baload X57 (pc' := 46) (i := (i + k)) (v := (f (i + k))) d_next_45 f62 hq (by omega) rfl rfl ?_
        refine r_istore X57 (pc' := 48) (ls' := #[.val (.ref a1), .val (.long u), .second, .val (.int sh), .val (.int (f (i + k)))]) d_next_46 rfl rfl ?_
        refine r_lloadN X57 (pc' := 49) d_next_48 rfl rfl ?_
        refine r_iload X57 (pc' := 51) d_next_49 rfl rfl ?_
        refine r_bipush X57 (pc' := 53) (v := (127 : Int32)) d_next_51 rfl rfl ?_
        refine r_iand X57 (pc' := 54) (z := ((f (i + k)) &&& (127 : Int32))) d_next_53 rfl rfl ?_
        refine r_i2l X57 (pc' := 55) (z := (((f (i + k)) &&& (127 : Int32)).toInt64)) d_next_54 rfl rfl ?_
        refine r_iloadN X57 (pc' := 56) d_next_55 rfl rfl ?_
        refine r_lshl X57 (pc' := 57) (z := ((((f (i + k)) &&& (127 : Int32)).toInt64) <<< (sh.toInt64 &&& 63))) d_next_56 rfl rfl ?_
        have kac := own_or u _ hu (f (i + k)) sh k hsh (by omega) (own_S_lt f i k)
        obtain ⟨u2, hu2⟩ : ∃ y, (u ||| (((f (i + k)) &&& (127 : Int32)).toInt64 <<< (sh.toInt64 &&& 63))) = y := ⟨_, rfl⟩
        rw [hu2] at kac
        refine r_lor X57 (pc' := 58) (z := u2) d_next_57 hu2 rfl ?_
        refine r_lstoreN X57 (pc' := 59) (ls' := #[.val (.ref a1), .val (.long u2), .second, .val (.int sh), .val (.int (f (i + k)))]) d_next_58 rfl rfl ?_
        refine r_iload X57 (pc' := 61) d_next_59 rfl rfl ?_
        refine r_if X57 (pc' := 66) (pc2 := 64) d_next_61 (by decide) (by decide) rfl (a := (f (i + k)).toInt) (b := 0) rfl rfl (fun (cq64 : (f (i + k)).toInt < 0) => ?_) (fun (cq64 : ¬ ((f (i + k)).toInt < 0)) => ?_)
        · refine r_iinc X57 (pc' := 69) (z := sh2) (ls' := #[.val (.ref a1), .val (.long u2), .second, .val (.int sh2), .val (.int (f (i + k)))]) d_next_66 rfl hsh2 rfl rfl ?_
          refine r_goto X57 (pc' := 4) d_next_69 (by decide) (by decide) ?_
          exact ih (k + 1) q2 sh2 u2 _ _ _ (by omega) kq2 ksh2 kac (Or.inr ⟨_, rfl⟩) X57 K63 f59 f60 f61 f62 (own_H H cq64)
        · refine r_lloadN X57 (pc' := 65) d_next_64 rfl rfl ?_
          exact r_retL X57 d_next_65 ⟨_, k + 1, q2, rfl, K63, f60, ⟨by omega, by omega, fun j hj => H j (by omega), fun _ => by show 0 ≤ (f (i + k)).toInt; omega⟩, Or.inr ⟨by omega, kac⟩, f61, by rw [kq2, show min (k + 1) 9 = k + 1 by omega]⟩ (by decide) (by decide)
  refine r_lconst X (pc' := 1) (v := (0 : Int64)) d_next_0 rfl rfl ?_
  refine r_lstoreN X (pc' := 2) (ls' := #[.val (.ref a1), .val (.long (0 : Int64)), .second, .unset, .unset]) d_next_1 rfl rfl ?_
  refine r_iconst X (pc' := 3) (v := (0 : Int32)) d_next_2 rfl rfl ?_
  refine r_istoreN X (pc' := 4) (ls' := #[.val (.ref a1), .val (.long (0 : Int64)), .second, .val (.int (0 : Int32)), .unset]) d_next_3 rfl rfl ?_
  exact LL 9 0 q0 (0 : Int32) (0 : Int64) .unset T h0 rfl (by rw [hq0]; rfl) rfl rfl (Or.inl rfl) X (Keep.refl h0 [a1]) E0 F0 G0 A0 (fun j h1 => by omega)
set_option maxRecDepth 65536 in
set_option maxHeartbeats 40000000 in
theorem con_end (l : Launch) (Z : State) (a0 : Array Value) (hw : ∀ d ∈ tables_1, d.before a0 Z = true) (a1 t1 : Addr) (q0 : Int32) (f : Nat → Int32) (h0 : Heap) (n0 : Nat) (Z0 : n0 ≤ h0.size) (F0 : Fld Z h0 a1 "com/example/unigram_query_likelihood/unigramquerylikelihood/index/Varint$ArrayReader" "bytes" "[B" (.ref t1)) (G0 : Fld Z h0 a1 "com/example/unigram_query_likelihood/unigramquerylikelihood/index/Varint$ArrayReader" "position" "I" (.int q0)) (A0 : Arf Z h0 t1 .byte 18 f) : Con l Z (⟨"com/example/unigram_query_likelihood/unigramquerylikelihood/index/Varint$ArrayReader", "atEnd", "()Z"⟩ : MethodName) prog_85_method_2_code 1 (some .boolean) ({ frames := 0, cells := 0, slots := 0, locals := 0 } : Room) #[(.ref a1)] h0 n0 0 0 (fun v h => (∃ z : Int32, v = some (.int z) ∧ (z.toInt = 1 ∧ q0.toInt = 18 ∨ z.toInt = 0 ∧ ¬ q0.toInt = 18)) ∧ h0 = h) := by
  refine Con.of_body (ls := #[.val (.ref a1)]) pn_com_example_unigram_query_likelihood_unigramquerylikelihood_index_Varint_ArrayReader (fun m => by first | (simp [entryFrame, mkF, argsToLocals, Value.category]; done) | rfl) Z0 (fun p e s m below meth c T (X : Here p l e ({ frames := 0, cells := 0, slots := 0, locals := 0 } : Room) s m #[(.ref a1)] below meth c Z "com/example/unigram_query_likelihood/unigramquerylikelihood/index/Varint$ArrayReader" "atEnd" prog_85_method_2_code 1 (some .boolean) n0 T h0 0 0) => ?_)
  refine r_aloadN X (pc' := 1) d_atEnd_0 rfl rfl ?_
  refine r_getfield X (pc' := 4) d_atEnd_1 (wd hw 24 rfl) G0 rfl (fun T65 X66 => ?_)
  refine r_aloadN X66 (pc' := 5) d_atEnd_4 rfl rfl ?_
  refine r_getfield X66 (pc' := 8) d_atEnd_5 (wd hw 17 rfl) F0 rfl (fun T67 X68 => ?_)
  refine r_arraylength X68 (pc' := 9) (v := (18 : Int32)) d_atEnd_8 A0 rfl rfl ?_
  refine r_icmp X68 (pc' := 16) (pc2 := 12) d_atEnd_9 (by decide) (by decide) rfl (a := q0.toInt) (b := 18) rfl rfl (fun (cq69 : ¬ q0.toInt = 18) => ?_) (fun (cq69 : ¬ (¬ q0.toInt = 18)) => ?_)
  · refine r_iconst X68 (pc' := 17) (v := (0 : Int32)) d_atEnd_16 rfl rfl ?_
    exact r_retN X68 (by simp) d_atEnd_17 (z := (0 : Int32)) (w := (0 : Int32)) rfl ⟨⟨_, rfl, Or.inr ⟨rfl, by omega⟩⟩, rfl⟩ (by decide) (by decide)
  · refine r_iconst X68 (pc' := 13) (v := (1 : Int32)) d_atEnd_12 rfl rfl ?_
    refine r_goto X68 (pc' := 17) d_atEnd_13 (by decide) (by decide) ?_
    exact r_retN X68 (by simp) d_atEnd_17 (z := (1 : Int32)) (w := (1 : Int32)) rfl ⟨⟨_, rfl, Or.inl ⟨rfl, by omega⟩⟩, rfl⟩ (by decide) (by decide)
set_option maxRecDepth 65536 in
set_option maxHeartbeats 40000000 in
theorem con_law (l : Launch) (Z : State) (a0 : Array Value) (hw : ∀ d ∈ tables_1, d.before a0 Z = true) (p1 p2 : Int64) (p3 : Int32) (h0 : Heap) (n0 : Nat) (Z0 : n0 ≤ h0.size)  : Con l Z x code maxLocals ret room_1 #[(.long p1), (.long p2), (.int p3)] h0 n0 16 128 (fun v _ => v = some (.int 1)) := by
  refine Con.of_body (ls := #[.val (.long p1), .second, .val (.long p2), .second, .val (.int p3), .unset, .unset, .unset, .unset, .unset, .unset, .unset, .unset, .unset, .unset, .unset, .unset, .unset, .unset, .unset, .unset]) pn_com_example_unigram_query_likelihood_unigramquerylikelihood_index_ArrayReaderNextPinLaw (fun m => by first | (simp [entryFrame, mkF, argsToLocals, Value.category, maxLocals]; done) | rfl) Z0 (fun p e s m below meth c T (X : Here p l e room_1 s m #[(.long p1), (.long p2), (.int p3)] below meth c Z "com/example/unigram_query_likelihood/unigramquerylikelihood/index/ArrayReaderNextPinLaw" "law" code 21 (some .boolean) n0 T h0 0 0) => ?_)
  refine r_bipush X (pc' := 2) (v := (18 : Int32)) at_0 rfl rfl ?_
  refine r_newarray X (pc' := 4) (N := 18) at_2 (wd hw 0 rfl) rfl rfl (by decide) (by decide) (by decide) rfl (fun T70 h71 b72 X73 ebb72 geb72 E74 A75 => ?_)
  refine r_astore X73 (pc' := 6) (ls' := #[.val (.long p1), .second, .val (.long p2), .second, .val (.int p3), .val (.ref b72), .unset, .unset, .unset, .unset, .unset, .unset, .unset, .unset, .unset, .unset, .unset, .unset, .unset, .unset, .unset]) at_4 rfl rfl ?_
  refine r_aload X73 (pc' := 8) at_6 rfl rfl ?_
  refine r_iconst X73 (pc' := 9) (v := (0 : Int32)) at_8 rfl rfl ?_
  refine r_lloadN X73 (pc' := 10) at_9 rfl rfl ?_
  refine r_l2i X73 (pc' := 11) (z := (p1.toInt32)) at_10 rfl rfl ?_
  refine r_i2b X73 (pc' := 12) (z := (own_b (p1.toInt32))) at_11 rfl rfl ?_
  refine r_bastore X73 (pc' := 13) (i := 0) (v := (own_b (p1.toInt32))) at_12 A75 rfl (by decide) geb72 (own_nb _) rfl (fun T76 h77 X78 W79 A80 => ?_)
  refine r_aload X78 (pc' := 15) at_13 rfl rfl ?_
  refine r_iconst X78 (pc' := 16) (v := (1 : Int32)) at_15 rfl rfl ?_
  refine r_lloadN X78 (pc' := 17) at_16 rfl rfl ?_
  refine r_bipush X78 (pc' := 19) (v := (8 : Int32)) at_17 rfl rfl ?_
  refine r_lushr X78 (pc' := 20) (z := (XT.ushrL p1 (8 : Int32))) at_19 rfl rfl ?_
  refine r_l2i X78 (pc' := 21) (z := ((XT.ushrL p1 (8 : Int32)).toInt32)) at_20 rfl rfl ?_
  refine r_i2b X78 (pc' := 22) (z := (own_b ((XT.ushrL p1 (8 : Int32)).toInt32))) at_21 rfl rfl ?_
  refine r_bastore X78 (pc' := 23) (i := 1) (v := (own_b ((XT.ushrL p1 (8 : Int32)).toInt32))) at_22 A80 rfl (by decide) geb72 (own_nb _) rfl (fun T81 h82 X83 W84 A85 => ?_)
  refine r_aload X83 (pc' := 25) at_23 rfl rfl ?_
  refine r_iconst X83 (pc' := 26) (v := (2 : Int32)) at_25 rfl rfl ?_
  refine r_lloadN X83 (pc' := 27) at_26 rfl rfl ?_
  refine r_bipush X83 (pc' := 29) (v := (16 : Int32)) at_27 rfl rfl ?_
  refine r_lushr X83 (pc' := 30) (z := (XT.ushrL p1 (16 : Int32))) at_29 rfl rfl ?_
  refine r_l2i X83 (pc' := 31) (z := ((XT.ushrL p1 (16 : Int32)).toInt32)) at_30 rfl rfl ?_
  refine r_i2b X83 (pc' := 32) (z := (own_b ((XT.ushrL p1 (16 : Int32)).toInt32))) at_31 rfl rfl ?_
  refine r_bastore X83 (pc' := 33) (i := 2) (v := (own_b ((XT.ushrL p1 (16 : Int32)).toInt32))) at_32 A85 rfl (by decide) geb72 (own_nb _) rfl (fun T86 h87 X88 W89 A90 => ?_)
  refine r_aload X88 (pc' := 35) at_33 rfl rfl ?_
  refine r_iconst X88 (pc' := 36) (v := (3 : Int32)) at_35 rfl rfl ?_
  refine r_lloadN X88 (pc' := 37) at_36 rfl rfl ?_
  refine r_bipush X88 (pc' := 39) (v := (24 : Int32)) at_37 rfl rfl ?_
  refine r_lushr X88 (pc' := 40) (z := (XT.ushrL p1 (24 : Int32))) at_39 rfl rfl ?_
  refine r_l2i X88 (pc' := 41) (z := ((XT.ushrL p1 (24 : Int32)).toInt32)) at_40 rfl rfl ?_
  refine r_i2b X88 (pc' := 42) (z := (own_b ((XT.ushrL p1 (24 : Int32)).toInt32))) at_41 rfl rfl ?_
  refine r_bastore X88 (pc' := 43) (i := 3) (v := (own_b ((XT.ushrL p1 (24 : Int32)).toInt32))) at_42 A90 rfl (by decide) geb72 (own_nb _) rfl (fun T91 h92 X93 W94 A95 => ?_)
  refine r_aload X93 (pc' := 45) at_43 rfl rfl ?_
  refine r_iconst X93 (pc' := 46) (v := (4 : Int32)) at_45 rfl rfl ?_
  refine r_lloadN X93 (pc' := 47) at_46 rfl rfl ?_
  refine r_bipush X93 (pc' := 49) (v := (32 : Int32)) at_47 rfl rfl ?_
  refine r_lushr X93 (pc' := 50) (z := (XT.ushrL p1 (32 : Int32))) at_49 rfl rfl ?_
  refine r_l2i X93 (pc' := 51) (z := ((XT.ushrL p1 (32 : Int32)).toInt32)) at_50 rfl rfl ?_
  refine r_i2b X93 (pc' := 52) (z := (own_b ((XT.ushrL p1 (32 : Int32)).toInt32))) at_51 rfl rfl ?_
  refine r_bastore X93 (pc' := 53) (i := 4) (v := (own_b ((XT.ushrL p1 (32 : Int32)).toInt32))) at_52 A95 rfl (by decide) geb72 (own_nb _) rfl (fun T96 h97 X98 W99 A100 => ?_)
  refine r_aload X98 (pc' := 55) at_53 rfl rfl ?_
  refine r_iconst X98 (pc' := 56) (v := (5 : Int32)) at_55 rfl rfl ?_
  refine r_lloadN X98 (pc' := 57) at_56 rfl rfl ?_
  refine r_bipush X98 (pc' := 59) (v := (40 : Int32)) at_57 rfl rfl ?_
  refine r_lushr X98 (pc' := 60) (z := (XT.ushrL p1 (40 : Int32))) at_59 rfl rfl ?_
  refine r_l2i X98 (pc' := 61) (z := ((XT.ushrL p1 (40 : Int32)).toInt32)) at_60 rfl rfl ?_
  refine r_i2b X98 (pc' := 62) (z := (own_b ((XT.ushrL p1 (40 : Int32)).toInt32))) at_61 rfl rfl ?_
  refine r_bastore X98 (pc' := 63) (i := 5) (v := (own_b ((XT.ushrL p1 (40 : Int32)).toInt32))) at_62 A100 rfl (by decide) geb72 (own_nb _) rfl (fun T101 h102 X103 W104 A105 => ?_)
  refine r_aload X103 (pc' := 65) at_63 rfl rfl ?_
  refine r_bipush X103 (pc' := 67) (v := (6 : Int32)) at_65 rfl rfl ?_
  refine r_lloadN X103 (pc' := 68) at_67 rfl rfl ?_
  refine r_bipush X103 (pc' := 70) (v := (48 : Int32)) at_68 rfl rfl ?_
  refine r_lushr X103 (pc' := 71) (z := (XT.ushrL p1 (48 : Int32))) at_70 rfl rfl ?_
  refine r_l2i X103 (pc' := 72) (z := ((XT.ushrL p1 (48 : Int32)).toInt32)) at_71 rfl rfl ?_
  refine r_i2b X103 (pc' := 73) (z := (own_b ((XT.ushrL p1 (48 : Int32)).toInt32))) at_72 rfl rfl ?_
  refine r_bastore X103 (pc' := 74) (i := 6) (v := (own_b ((XT.ushrL p1 (48 : Int32)).toInt32))) at_73 A105 rfl (by decide) geb72 (own_nb _) rfl (fun T106 h107 X108 W109 A110 => ?_)
  refine r_aload X108 (pc' := 76) at_74 rfl rfl ?_
  refine r_bipush X108 (pc' := 78) (v := (7 : Int32)) at_76 rfl rfl ?_
  refine r_lloadN X108 (pc' := 79) at_78 rfl rfl ?_
  refine r_bipush X108 (pc' := 81) (v := (56 : Int32)) at_79 rfl rfl ?_
  refine r_lushr X108 (pc' := 82) (z := (XT.ushrL p1 (56 : Int32))) at_81 rfl rfl ?_
  refine r_l2i X108 (pc' := 83) (z := ((XT.ushrL p1 (56 : Int32)).toInt32)) at_82 rfl rfl ?_
  refine r_i2b X108 (pc' := 84) (z := (own_b ((XT.ushrL p1 (56 : Int32)).toInt32))) at_83 rfl rfl ?_
  refine r_bastore X108 (pc' := 85) (i := 7) (v := (own_b ((XT.ushrL p1 (56 : Int32)).toInt32))) at_84 A110 rfl (by decide) geb72 (own_nb _) rfl (fun T111 h112 X113 W114 A115 => ?_)
  refine r_aload X113 (pc' := 87) at_85 rfl rfl ?_
  refine r_bipush X113 (pc' := 89) (v := (8 : Int32)) at_87 rfl rfl ?_
  refine r_lloadN X113 (pc' := 90) at_89 rfl rfl ?_
  refine r_l2i X113 (pc' := 91) (z := (p2.toInt32)) at_90 rfl rfl ?_
  refine r_i2b X113 (pc' := 92) (z := (own_b (p2.toInt32))) at_91 rfl rfl ?_
  refine r_bastore X113 (pc' := 93) (i := 8) (v := (own_b (p2.toInt32))) at_92 A115 rfl (by decide) geb72 (own_nb _) rfl (fun T116 h117 X118 W119 A120 => ?_)
  refine r_aload X118 (pc' := 95) at_93 rfl rfl ?_
  refine r_bipush X118 (pc' := 97) (v := (9 : Int32)) at_95 rfl rfl ?_
  refine r_lloadN X118 (pc' := 98) at_97 rfl rfl ?_
  refine r_bipush X118 (pc' := 100) (v := (8 : Int32)) at_98 rfl rfl ?_
  refine r_lushr X118 (pc' := 101) (z := (XT.ushrL p2 (8 : Int32))) at_100 rfl rfl ?_
  refine r_l2i X118 (pc' := 102) (z := ((XT.ushrL p2 (8 : Int32)).toInt32)) at_101 rfl rfl ?_
  refine r_i2b X118 (pc' := 103) (z := (own_b ((XT.ushrL p2 (8 : Int32)).toInt32))) at_102 rfl rfl ?_
  refine r_bastore X118 (pc' := 104) (i := 9) (v := (own_b ((XT.ushrL p2 (8 : Int32)).toInt32))) at_103 A120 rfl (by decide) geb72 (own_nb _) rfl (fun T121 h122 X123 W124 A125 => ?_)
  refine r_aload X123 (pc' := 106) at_104 rfl rfl ?_
  refine r_bipush X123 (pc' := 108) (v := (10 : Int32)) at_106 rfl rfl ?_
  refine r_lloadN X123 (pc' := 109) at_108 rfl rfl ?_
  refine r_bipush X123 (pc' := 111) (v := (16 : Int32)) at_109 rfl rfl ?_
  refine r_lushr X123 (pc' := 112) (z := (XT.ushrL p2 (16 : Int32))) at_111 rfl rfl ?_
  refine r_l2i X123 (pc' := 113) (z := ((XT.ushrL p2 (16 : Int32)).toInt32)) at_112 rfl rfl ?_
  refine r_i2b X123 (pc' := 114) (z := (own_b ((XT.ushrL p2 (16 : Int32)).toInt32))) at_113 rfl rfl ?_
  refine r_bastore X123 (pc' := 115) (i := 10) (v := (own_b ((XT.ushrL p2 (16 : Int32)).toInt32))) at_114 A125 rfl (by decide) geb72 (own_nb _) rfl (fun T126 h127 X128 W129 A130 => ?_)
  refine r_aload X128 (pc' := 117) at_115 rfl rfl ?_
  refine r_bipush X128 (pc' := 119) (v := (11 : Int32)) at_117 rfl rfl ?_
  refine r_lloadN X128 (pc' := 120) at_119 rfl rfl ?_
  refine r_bipush X128 (pc' := 122) (v := (24 : Int32)) at_120 rfl rfl ?_
  refine r_lushr X128 (pc' := 123) (z := (XT.ushrL p2 (24 : Int32))) at_122 rfl rfl ?_
  refine r_l2i X128 (pc' := 124) (z := ((XT.ushrL p2 (24 : Int32)).toInt32)) at_123 rfl rfl ?_
  refine r_i2b X128 (pc' := 125) (z := (own_b ((XT.ushrL p2 (24 : Int32)).toInt32))) at_124 rfl rfl ?_
  refine r_bastore X128 (pc' := 126) (i := 11) (v := (own_b ((XT.ushrL p2 (24 : Int32)).toInt32))) at_125 A130 rfl (by decide) geb72 (own_nb _) rfl (fun T131 h132 X133 W134 A135 => ?_)
  refine r_aload X133 (pc' := 128) at_126 rfl rfl ?_
  refine r_bipush X133 (pc' := 130) (v := (12 : Int32)) at_128 rfl rfl ?_
  refine r_lloadN X133 (pc' := 131) at_130 rfl rfl ?_
  refine r_bipush X133 (pc' := 133) (v := (32 : Int32)) at_131 rfl rfl ?_
  refine r_lushr X133 (pc' := 134) (z := (XT.ushrL p2 (32 : Int32))) at_133 rfl rfl ?_
  refine r_l2i X133 (pc' := 135) (z := ((XT.ushrL p2 (32 : Int32)).toInt32)) at_134 rfl rfl ?_
  refine r_i2b X133 (pc' := 136) (z := (own_b ((XT.ushrL p2 (32 : Int32)).toInt32))) at_135 rfl rfl ?_
  refine r_bastore X133 (pc' := 137) (i := 12) (v := (own_b ((XT.ushrL p2 (32 : Int32)).toInt32))) at_136 A135 rfl (by decide) geb72 (own_nb _) rfl (fun T136 h137 X138 W139 A140 => ?_)
  refine r_aload X138 (pc' := 139) at_137 rfl rfl ?_
  refine r_bipush X138 (pc' := 141) (v := (13 : Int32)) at_139 rfl rfl ?_
  refine r_lloadN X138 (pc' := 142) at_141 rfl rfl ?_
  refine r_bipush X138 (pc' := 144) (v := (40 : Int32)) at_142 rfl rfl ?_
  refine r_lushr X138 (pc' := 145) (z := (XT.ushrL p2 (40 : Int32))) at_144 rfl rfl ?_
  refine r_l2i X138 (pc' := 146) (z := ((XT.ushrL p2 (40 : Int32)).toInt32)) at_145 rfl rfl ?_
  refine r_i2b X138 (pc' := 147) (z := (own_b ((XT.ushrL p2 (40 : Int32)).toInt32))) at_146 rfl rfl ?_
  refine r_bastore X138 (pc' := 148) (i := 13) (v := (own_b ((XT.ushrL p2 (40 : Int32)).toInt32))) at_147 A140 rfl (by decide) geb72 (own_nb _) rfl (fun T141 h142 X143 W144 A145 => ?_)
  refine r_aload X143 (pc' := 150) at_148 rfl rfl ?_
  refine r_bipush X143 (pc' := 152) (v := (14 : Int32)) at_150 rfl rfl ?_
  refine r_lloadN X143 (pc' := 153) at_152 rfl rfl ?_
  refine r_bipush X143 (pc' := 155) (v := (48 : Int32)) at_153 rfl rfl ?_
  refine r_lushr X143 (pc' := 156) (z := (XT.ushrL p2 (48 : Int32))) at_155 rfl rfl ?_
  refine r_l2i X143 (pc' := 157) (z := ((XT.ushrL p2 (48 : Int32)).toInt32)) at_156 rfl rfl ?_
  refine r_i2b X143 (pc' := 158) (z := (own_b ((XT.ushrL p2 (48 : Int32)).toInt32))) at_157 rfl rfl ?_
  refine r_bastore X143 (pc' := 159) (i := 14) (v := (own_b ((XT.ushrL p2 (48 : Int32)).toInt32))) at_158 A145 rfl (by decide) geb72 (own_nb _) rfl (fun T146 h147 X148 W149 A150 => ?_)
  refine r_aload X148 (pc' := 161) at_159 rfl rfl ?_
  refine r_bipush X148 (pc' := 163) (v := (15 : Int32)) at_161 rfl rfl ?_
  refine r_lloadN X148 (pc' := 164) at_163 rfl rfl ?_
  refine r_bipush X148 (pc' := 166) (v := (56 : Int32)) at_164 rfl rfl ?_
  refine r_lushr X148 (pc' := 167) (z := (XT.ushrL p2 (56 : Int32))) at_166 rfl rfl ?_
  refine r_l2i X148 (pc' := 168) (z := ((XT.ushrL p2 (56 : Int32)).toInt32)) at_167 rfl rfl ?_
  refine r_i2b X148 (pc' := 169) (z := (own_b ((XT.ushrL p2 (56 : Int32)).toInt32))) at_168 rfl rfl ?_
  refine r_bastore X148 (pc' := 170) (i := 15) (v := (own_b ((XT.ushrL p2 (56 : Int32)).toInt32))) at_169 A150 rfl (by decide) geb72 (own_nb _) rfl (fun T151 h152 X153 W154 A155 => ?_)
  refine r_aload X153 (pc' := 172) at_170 rfl rfl ?_
  refine r_bipush X153 (pc' := 174) (v := (16 : Int32)) at_172 rfl rfl ?_
  refine r_iload X153 (pc' := 176) at_174 rfl rfl ?_
  refine r_i2b X153 (pc' := 177) (z := (own_b p3)) at_176 rfl rfl ?_
  refine r_bastore X153 (pc' := 178) (i := 16) (v := (own_b p3)) at_177 A155 rfl (by decide) geb72 (own_nb _) rfl (fun T156 h157 X158 W159 A160 => ?_)
  refine r_aload X158 (pc' := 180) at_178 rfl rfl ?_
  refine r_bipush X158 (pc' := 182) (v := (17 : Int32)) at_180 rfl rfl ?_
  refine r_iload X158 (pc' := 184) at_182 rfl rfl ?_
  refine r_bipush X158 (pc' := 186) (v := (8 : Int32)) at_184 rfl rfl ?_
  refine r_iushr X158 (pc' := 187) (z := (XT.ushr p3 (8 : Int32))) at_186 rfl rfl ?_
  refine r_i2b X158 (pc' := 188) (z := (own_b (XT.ushr p3 (8 : Int32)))) at_187 rfl rfl ?_
  refine r_bastore X158 (pc' := 189) (i := 17) (v := (own_b (XT.ushr p3 (8 : Int32)))) at_188 A160 rfl (by decide) geb72 (own_nb _) rfl (fun T161 h162 X163 W164 A165 => ?_)
  obtain ⟨f, hf⟩ : ∃ f, f = (upd (upd (upd (upd (upd (upd (upd (upd (upd (upd (upd (upd (upd (upd (upd (upd (upd (upd (fun _ => 0) 0 (own_b (p1.toInt32))) 1 (own_b ((XT.ushrL p1 (8 : Int32)).toInt32))) 2 (own_b ((XT.ushrL p1 (16 : Int32)).toInt32))) 3 (own_b ((XT.ushrL p1 (24 : Int32)).toInt32))) 4 (own_b ((XT.ushrL p1 (32 : Int32)).toInt32))) 5 (own_b ((XT.ushrL p1 (40 : Int32)).toInt32))) 6 (own_b ((XT.ushrL p1 (48 : Int32)).toInt32))) 7 (own_b ((XT.ushrL p1 (56 : Int32)).toInt32))) 8 (own_b (p2.toInt32))) 9 (own_b ((XT.ushrL p2 (8 : Int32)).toInt32))) 10 (own_b ((XT.ushrL p2 (16 : Int32)).toInt32))) 11 (own_b ((XT.ushrL p2 (24 : Int32)).toInt32))) 12 (own_b ((XT.ushrL p2 (32 : Int32)).toInt32))) 13 (own_b ((XT.ushrL p2 (40 : Int32)).toInt32))) 14 (own_b ((XT.ushrL p2 (48 : Int32)).toInt32))) 15 (own_b ((XT.ushrL p2 (56 : Int32)).toInt32))) 16 (own_b p3)) 17 (own_b (XT.ushr p3 (8 : Int32)))) := ⟨_, rfl⟩
  have A9 := A165
  rw [← hf] at A9
  refine r_aload X163 (pc' := 191) at_189 rfl rfl ?_
  refine r_iconst X163 (pc' := 192) (v := (0 : Int32)) at_191 rfl rfl ?_
  refine r_callS X163 (pc' := 195) at_192 (con_stop l Z a0 hw b72 (0 : Int32) f 0 h162 n0 X163.sz A9 rfl (by decide)) (wd hw 1 rfl) (wd hw 2 rfl) (wd hw 3 rfl) (wd hw 4 rfl) (by decide) (argsL := [(.ref b72), (.int (0 : Int32))]) (rest := []) (W := 0) rfl rfl pd_stop rfl rfl (by decide) (by decide) (by decide) (by decide) rfl (fun v166 T167 h168 X169 QQ170 => ?_)
  obtain ⟨⟨z1, n1, rfl, hz1, t1⟩, rfl⟩ := QQ170
  show Run p e below _ _ (mkF m 195 #[.val (.long p1), .second, .val (.long p2), .second, .val (.int p3), .val (.ref b72), .unset, .unset, .unset, .unset, .unset, .unset, .unset, .unset, .unset, .unset, .unset, .unset, .unset, .unset, .unset] [(.int z1)])
  have b1 := t1.1
  have b2 := t1.2.1
  refine r_istore X169 (pc' := 197) (ls' := #[.val (.long p1), .second, .val (.long p2), .second, .val (.int p3), .val (.ref b72), .val (.int z1), .unset, .unset, .unset, .unset, .unset, .unset, .unset, .unset, .unset, .unset, .unset, .unset, .unset, .unset]) at_195 rfl rfl ?_
  have J1 : ∀ (u1 : Int32) (hu1 : u1.toInt = ((min n1 9 : Nat) : Int)), Run p e below (Fnl s n0 16 128 (fun v _ => v = some (.int 1))) T167 (mkF m 211 #[.val (.long p1), .second, .val (.long p2), .second, .val (.int p3), .val (.ref b72), .val (.int z1), .unset, .unset, .unset, .unset, .unset, .unset, .unset, .unset, .unset, .unset, .unset, .unset, .unset, .unset] [(.int u1)]) := by
    intro u1 hu1
    refine r_istore X169 (pc' := 213) (ls' := #[.val (.long p1), .second, .val (.long p2), .second, .val (.int p3), .val (.ref b72), .val (.int z1), .val (.int u1), .unset, .unset, .unset, .unset, .unset, .unset, .unset, .unset, .unset, .unset, .unset, .unset, .unset]) at_211 rfl rfl ?_
    refine r_aload X169 (pc' := 215) at_213 rfl rfl ?_
    refine r_iload X169 (pc' := 217) at_215 rfl rfl ?_
    refine r_callS X169 (pc' := 220) at_217 (con_stop l Z a0 hw b72 u1 f (min n1 9) h162 n0 X169.sz A9 hu1 (by omega)) (wd hw 1 rfl) (wd hw 2 rfl) (wd hw 3 rfl) (wd hw 4 rfl) (by decide) (argsL := [(.ref b72), (.int u1)]) (rest := []) (W := 0) rfl rfl pd_stop rfl rfl (by decide) (by decide) (by decide) (by decide) rfl (fun v171 T172 h173 X174 QQ175 => ?_)
    obtain ⟨⟨z2, n2, rfl, hz2, t2⟩, rfl⟩ := QQ175
    show Run p e below _ _ (mkF m 220 #[.val (.long p1), .second, .val (.long p2), .second, .val (.int p3), .val (.ref b72), .val (.int z1), .val (.int u1), .unset, .unset, .unset, .unset, .unset, .unset, .unset, .unset, .unset, .unset, .unset, .unset, .unset] [(.int z2)])
    have c1 := t2.1
    have c2 := t2.2.1
    refine r_istore X174 (pc' := 222) (ls' := #[.val (.long p1), .second, .val (.long p2), .second, .val (.int p3), .val (.ref b72), .val (.int z1), .val (.int u1), .val (.int z2), .unset, .unset, .unset, .unset, .unset, .unset, .unset, .unset, .unset, .unset, .unset, .unset]) at_220 rfl rfl ?_
    have J2 : ∀ (u2 : Int32) (hu2 : u2.toInt = ((min n2 9 : Nat) : Int)), Run p e below (Fnl s n0 16 128 (fun v _ => v = some (.int 1))) T172 (mkF m 236 #[.val (.long p1), .second, .val (.long p2), .second, .val (.int p3), .val (.ref b72), .val (.int z1), .val (.int u1), .val (.int z2), .unset, .unset, .unset, .unset, .unset, .unset, .unset, .unset, .unset, .unset, .unset, .unset] [(.int u2)]) := by
      intro u2 hu2
      refine r_istore X174 (pc' := 238) (ls' := #[.val (.long p1), .second, .val (.long p2), .second, .val (.int p3), .val (.ref b72), .val (.int z1), .val (.int u1), .val (.int z2), .val (.int u2), .unset, .unset, .unset, .unset, .unset, .unset, .unset, .unset, .unset, .unset, .unset]) at_236 rfl rfl ?_
      refine r_aload X174 (pc' := 240) at_238 rfl rfl ?_
      refine r_iconst X174 (pc' := 241) (v := (0 : Int32)) at_240 rfl rfl ?_
      refine r_iload X174 (pc' := 243) at_241 rfl rfl ?_
      refine r_callS X174 (pc' := 246) at_243 (con_val l Z a0 hw b72 (0 : Int32) z1 f 0 n1 h162 n0 X174.sz A9 rfl (by decide) hz1 b1 b2) (wd hw 5 rfl) (wd hw 6 rfl) (wd hw 3 rfl) (wd hw 7 rfl) (by decide) (argsL := [(.ref b72), (.int (0 : Int32)), (.int z1)]) (rest := []) (W := 0) rfl rfl pd_value rfl rfl (by decide) (by decide) (by decide) (by decide) rfl (fun v176 T177 h178 X179 QQ180 => ?_)
      obtain ⟨⟨v1, rfl, hv1⟩, rfl⟩ := QQ180
      show Run p e below _ _ (mkF m 246 #[.val (.long p1), .second, .val (.long p2), .second, .val (.int p3), .val (.ref b72), .val (.int z1), .val (.int u1), .val (.int z2), .val (.int u2), .unset, .unset, .unset, .unset, .unset, .unset, .unset, .unset, .unset, .unset, .unset] [(.long v1)])
      refine r_lstore X179 (pc' := 248) (ls' := #[.val (.long p1), .second, .val (.long p2), .second, .val (.int p3), .val (.ref b72), .val (.int z1), .val (.int u1), .val (.int z2), .val (.int u2), .val (.long v1), .second, .unset, .unset, .unset, .unset, .unset, .unset, .unset, .unset, .unset]) at_246 rfl rfl ?_
      refine r_aload X179 (pc' := 250) at_248 rfl rfl ?_
      refine r_iload X179 (pc' := 252) at_250 rfl rfl ?_
      refine r_iload X179 (pc' := 254) at_252 rfl rfl ?_
      refine r_callS X179 (pc' := 257) at_254 (con_val l Z a0 hw b72 u1 z2 f (min n1 9) n2 h162 n0 X179.sz A9 hu1 (by omega) hz2 c1 c2) (wd hw 5 rfl) (wd hw 6 rfl) (wd hw 3 rfl) (wd hw 7 rfl) (by decide) (argsL := [(.ref b72), (.int u1), (.int z2)]) (rest := []) (W := 0) rfl rfl pd_value rfl rfl (by decide) (by decide) (by decide) (by decide) rfl (fun v181 T182 h183 X184 QQ185 => ?_)
      obtain ⟨⟨v2, rfl, hv2⟩, rfl⟩ := QQ185
      show Run p e below _ _ (mkF m 257 #[.val (.long p1), .second, .val (.long p2), .second, .val (.int p3), .val (.ref b72), .val (.int z1), .val (.int u1), .val (.int z2), .val (.int u2), .val (.long v1), .second, .unset, .unset, .unset, .unset, .unset, .unset, .unset, .unset, .unset] [(.long v2)])
      refine r_lstore X184 (pc' := 259) (ls' := #[.val (.long p1), .second, .val (.long p2), .second, .val (.int p3), .val (.ref b72), .val (.int z1), .val (.int u1), .val (.int z2), .val (.int u2), .val (.long v1), .second, .val (.long v2), .second, .unset, .unset, .unset, .unset, .unset, .unset, .unset]) at_257 rfl rfl ?_
      refine r_new X184 (pc' := 262) at_259 (wd hw 8 rfl) (wd hw 9 rfl) (wd hw 10 rfl) (by decide) (by decide) rfl (fun T186 h187 b188 X189 ebb188 geb188 E190 A191 D192 => ?_)
      have ne193 : b72 ≠ b188 := Nat.ne_of_lt (by rw [ebb188]; exact A9.lt)
      have f194 := A9.ext E190
      have f195 := D192 (O := "com/example/unigram_query_likelihood/unigramquerylikelihood/index/Varint$ArrayReader") (f := "bytes") (Or.inr (wd hw 18 rfl)) (ty := (.array .byte)) (by decide)
      have f196 := D192 (O := "com/example/unigram_query_likelihood/unigramquerylikelihood/index/Varint$ArrayReader") (f := "position") (Or.inl (wd hw 25 rfl)) (ty := .int) (by decide)
      refine r_dup X189 (pc' := 263) at_262 rfl rfl ?_
      refine r_aload X189 (pc' := 265) at_263 rfl rfl ?_
      refine r_init X189 (pc' := 268) at_265 (con_init l Z a0 hw b188 (b72) (.null) (.int (0 : Int32)) h187 n0 X189.sz A191 f195 f196 geb188) rfl (wd hw 11 rfl) (wd hw 12 rfl) (wd hw 10 rfl) (wd hw 13 rfl) (by decide) (argsL := [(.ref b72)]) (rest := [(.ref b188)]) (W := 1) rfl rfl pd_init_Varint_ArrayReader rfl rfl (by decide) (by decide) (by decide) (by decide) rfl (fun v197 T198 h199 X200 QQ201 => ?_)
      obtain ⟨rfl, K202, f203, f204⟩ := QQ201
      show Run p e below _ _ (mkF m 268 #[.val (.long p1), .second, .val (.long p2), .second, .val (.int p3), .val (.ref b72), .val (.int z1), .val (.int u1), .val (.int z2), .val (.int u2), .val (.long v1), .second, .val (.long v2), .second, .unset, .unset, .unset, .unset, .unset, .unset, .unset] [(.ref b188)])
      have f205 := f194.keep K202 (ninS ne193 nin0)
      have f206 := A191.keep K202
      refine r_astore X200 (pc' := 270) (ls' := #[.val (.long p1), .second, .val (.long p2), .second, .val (.int p3), .val (.ref b72), .val (.int z1), .val (.int u1), .val (.int z2), .val (.int u2), .val (.long v1), .second, .val (.long v2), .second, .val (.ref b188), .unset, .unset, .unset, .unset, .unset, .unset]) at_268 rfl rfl ?_
      refine r_aload X200 (pc' := 272) at_270 rfl rfl ?_
      refine r_callV X200 (pc' := 275) at_272 (con_next l Z a0 hw b188 b72 (0 : Int32) f 0 h199 n0 X200.sz f206 f203 f204 f205 ne193 geb188 rfl (by decide)) f206 (wd hw 19 rfl) (wd hw 20 rfl) (wd hw 22 rfl) (wd hw 21 rfl) (wd hw 10 rfl) (wd hw 23 rfl) (by decide) (argsL := []) (rest := []) (W := 0) rfl rfl pd_next rfl rfl (by decide) (by decide) (by decide) (by decide) rfl (fun v207 T208 h209 X210 QQ211 => ?_)
      obtain ⟨x0, m0, r0, rfl, K0, fb0, tt0, hx0, fp0, hr0⟩ := QQ211
      show Run p e below _ _ (mkF m 275 #[.val (.long p1), .second, .val (.long p2), .second, .val (.int p3), .val (.ref b72), .val (.int z1), .val (.int u1), .val (.int z2), .val (.int u2), .val (.long v1), .second, .val (.long v2), .second, .val (.ref b188), .unset, .unset, .unset, .unset, .unset, .unset] [(.long x0)])
      have f212 := f205.keep K0 (ninS ne193 nin0)
      have f213 := f206.keep K0
      have em0 : m0 = n1 := own_T_uniq tt0 t1
      subst em0
      have hr0' : r0.toInt = ((min m0 9 : Nat) : Int) := by rw [hr0]; omega
      refine r_lstore X210 (pc' := 277) (ls' := #[.val (.long p1), .second, .val (.long p2), .second, .val (.int p3), .val (.ref b72), .val (.int z1), .val (.int u1), .val (.int z2), .val (.int u2), .val (.long v1), .second, .val (.long v2), .second, .val (.ref b188), .val (.long x0), .second, .unset, .unset, .unset, .unset]) at_275 rfl rfl ?_
      refine r_aload X210 (pc' := 279) at_277 rfl rfl ?_
      refine r_callV X210 (pc' := 282) at_279 (con_end l Z a0 hw b188 b72 r0 f h209 n0 X210.sz fb0 fp0 f212) f213 (wd hw 26 rfl) (wd hw 27 rfl) (wd hw 29 rfl) (wd hw 28 rfl) (wd hw 10 rfl) (wd hw 30 rfl) (by decide) (argsL := []) (rest := []) (W := 0) rfl rfl pd_atEnd rfl rfl (by decide) (by decide) (by decide) (by decide) rfl (fun v214 T215 h216 X217 QQ218 => ?_)
      obtain ⟨⟨e0, rfl, he0⟩, rfl⟩ := QQ218
      show Run p e below _ _ (mkF m 282 #[.val (.long p1), .second, .val (.long p2), .second, .val (.int p3), .val (.ref b72), .val (.int z1), .val (.int u1), .val (.int z2), .val (.int u2), .val (.long v1), .second, .val (.long v2), .second, .val (.ref b188), .val (.long x0), .second, .unset, .unset, .unset, .unset] [(.int e0)])
      refine r_istore X217 (pc' := 284) (ls' := #[.val (.long p1), .second, .val (.long p2), .second, .val (.int p3), .val (.ref b72), .val (.int z1), .val (.int u1), .val (.int z2), .val (.int u2), .val (.long v1), .second, .val (.long v2), .second, .val (.ref b188), .val (.long x0), .second, .val (.int e0), .unset, .unset, .unset]) at_282 rfl rfl ?_
      refine r_aload X217 (pc' := 286) at_284 rfl rfl ?_
      refine r_callV X217 (pc' := 289) at_286 (con_next l Z a0 hw b188 b72 r0 f (min m0 9) h209 n0 X217.sz f213 fb0 fp0 f212 ne193 geb188 hr0' (by omega)) f213 (wd hw 19 rfl) (wd hw 20 rfl) (wd hw 22 rfl) (wd hw 21 rfl) (wd hw 10 rfl) (wd hw 23 rfl) (by decide) (argsL := []) (rest := []) (W := 0) rfl rfl pd_next rfl rfl (by decide) (by decide) (by decide) (by decide) rfl (fun v219 T220 h221 X222 QQ223 => ?_)
      obtain ⟨x1, m1, r1, rfl, K1, fb1, tt1, hx1, fp1, hr1⟩ := QQ223
      show Run p e below _ _ (mkF m 289 #[.val (.long p1), .second, .val (.long p2), .second, .val (.int p3), .val (.ref b72), .val (.int z1), .val (.int u1), .val (.int z2), .val (.int u2), .val (.long v1), .second, .val (.long v2), .second, .val (.ref b188), .val (.long x0), .second, .val (.int e0), .unset, .unset, .unset] [(.long x1)])
      have f224 := f212.keep K1 (ninS ne193 nin0)
      have f225 := f213.keep K1
      have em1 : m1 = n2 := own_T_uniq tt1 t2
      subst em1
      refine r_lstore X222 (pc' := 291) (ls' := #[.val (.long p1), .second, .val (.long p2), .second, .val (.int p3), .val (.ref b72), .val (.int z1), .val (.int u1), .val (.int z2), .val (.int u2), .val (.long v1), .second, .val (.long v2), .second, .val (.ref b188), .val (.long x0), .second, .val (.int e0), .val (.long x1), .second, .unset]) at_289 rfl rfl ?_
      refine r_aload X222 (pc' := 293) at_291 rfl rfl ?_
      refine r_callV X222 (pc' := 296) at_293 (con_end l Z a0 hw b188 b72 r1 f h221 n0 X222.sz fb1 fp1 f224) f225 (wd hw 26 rfl) (wd hw 27 rfl) (wd hw 29 rfl) (wd hw 28 rfl) (wd hw 10 rfl) (wd hw 30 rfl) (by decide) (argsL := []) (rest := []) (W := 0) rfl rfl pd_atEnd rfl rfl (by decide) (by decide) (by decide) (by decide) rfl (fun v226 T227 h228 X229 QQ230 => ?_)
      obtain ⟨⟨e1, rfl, he1⟩, rfl⟩ := QQ230
      show Run p e below _ _ (mkF m 296 #[.val (.long p1), .second, .val (.long p2), .second, .val (.int p3), .val (.ref b72), .val (.int z1), .val (.int u1), .val (.int z2), .val (.int u2), .val (.long v1), .second, .val (.long v2), .second, .val (.ref b188), .val (.long x0), .second, .val (.int e0), .val (.long x1), .second, .unset] [(.int e1)])
      have cc1 := n_cmp x0 v1
      have cc2 := n_cmp x1 v2
      refine r_istore X229 (pc' := 298) (ls' := #[.val (.long p1), .second, .val (.long p2), .second, .val (.int p3), .val (.ref b72), .val (.int z1), .val (.int u1), .val (.int z2), .val (.int u2), .val (.long v1), .second, .val (.long v2), .second, .val (.ref b188), .val (.long x0), .second, .val (.int e0), .val (.long x1), .second, .val (.int e1)]) at_296 rfl rfl ?_
      refine r_lload X229 (pc' := 300) at_298 rfl rfl ?_
      refine r_lload X229 (pc' := 302) at_300 rfl rfl ?_
      refine r_lcmp X229 (pc' := 303) (z := (XT.cmpL x0 v1)) at_302 rfl rfl ?_
      refine r_ifN X229 (pc2 := 306) at_303 (by decide) rfl (a := (XT.cmpL x0 v1).toInt) (b := 0) rfl rfl (show ¬ (¬ (XT.cmpL x0 v1).toInt = 0) from (by omega)) ?_
      refine r_iload X229 (pc' := 308) at_306 rfl rfl ?_
      refine r_ifN X229 (pc2 := 311) at_308 (by decide) rfl (a := e0.toInt) (b := 0) rfl rfl (show ¬ (¬ e0.toInt = 0) from (by omega)) ?_
      refine r_lload X229 (pc' := 313) at_311 rfl rfl ?_
      refine r_lload X229 (pc' := 315) at_313 rfl rfl ?_
      refine r_lcmp X229 (pc' := 316) (z := (XT.cmpL x1 v2)) at_315 rfl rfl ?_
      refine r_ifN X229 (pc2 := 319) at_316 (by decide) rfl (a := (XT.cmpL x1 v2).toInt) (b := 0) rfl rfl (show ¬ (¬ (XT.cmpL x1 v2).toInt = 0) from (by omega)) ?_
      obtain ⟨sm, hsm⟩ : ∃ z, u1 + u2 = z := ⟨_, rfl⟩
      have ksm : sm.toInt = ((min m0 9 : Nat) : Int) + ((min m1 9 : Nat) : Int) := by rw [← hsm]; exact n_add hu1 hu2 (by omega) (by omega)
      refine r_iload X229 (pc' := 321) at_319 rfl rfl ?_
      refine r_iload X229 (pc' := 323) at_321 rfl rfl ?_
      refine r_iload X229 (pc' := 325) at_323 rfl rfl ?_
      refine r_iadd X229 (pc' := 326) (z := sm) at_325 hsm rfl ?_
      refine r_bipush X229 (pc' := 328) (v := (18 : Int32)) at_326 rfl rfl ?_
      refine r_icmp X229 (pc' := 335) (pc2 := 331) at_328 (by decide) (by decide) rfl (a := sm.toInt) (b := 18) rfl rfl (fun (cq231 : ¬ sm.toInt = 18) => ?_) (fun (cq231 : ¬ (¬ sm.toInt = 18)) => ?_)
      · refine r_iconst X229 (pc' := 336) (v := (0 : Int32)) at_335 rfl rfl ?_
        refine r_icmpN X229 (pc2 := 339) at_336 (by decide) rfl (a := e1.toInt) (b := 0) rfl rfl (show ¬ (¬ e1.toInt = 0) from (by omega)) ?_
        refine r_iconst X229 (pc' := 340) (v := (1 : Int32)) at_339 rfl rfl ?_
        refine r_goto X229 (pc' := 344) at_340 (by decide) (by decide) ?_
        exact r_retN X229 (by simp) at_344 (z := (1 : Int32)) (w := (1 : Int32)) rfl rfl (by decide) (by decide)
      · refine r_iconst X229 (pc' := 332) (v := (1 : Int32)) at_331 rfl rfl ?_
        refine r_goto X229 (pc' := 336) at_332 (by decide) (by decide) ?_
        refine r_icmpN X229 (pc2 := 339) at_336 (by decide) rfl (a := e1.toInt) (b := 1) rfl rfl (show ¬ (¬ e1.toInt = 1) from (by omega)) ?_
        refine r_iconst X229 (pc' := 340) (v := (1 : Int32)) at_339 rfl rfl ?_
        refine r_goto X229 (pc' := 344) at_340 (by decide) (by decide) ?_
        exact r_retN X229 (by simp) at_344 (z := (1 : Int32)) (w := (1 : Int32)) rfl rfl (by decide) (by decide)
    refine r_iload X174 (pc' := 224) at_222 rfl rfl ?_
    refine r_bipush X174 (pc' := 226) (v := (10 : Int32)) at_224 rfl rfl ?_
    refine r_icmp X174 (pc' := 234) (pc2 := 229) at_226 (by decide) (by decide) rfl (a := z2.toInt) (b := 10) rfl rfl (fun (cq232 : ¬ z2.toInt = 10) => ?_) (fun (cq232 : ¬ (¬ z2.toInt = 10)) => ?_)
    · refine r_iload X174 (pc' := 236) at_234 rfl rfl ?_
      exact J2 z2 (by omega)
    · refine r_bipush X174 (pc' := 231) (v := (9 : Int32)) at_229 rfl rfl ?_
      refine r_goto X174 (pc' := 236) at_231 (by decide) (by decide) ?_
      exact J2 (9 : Int32) (by show (9 : Int) = _; omega)
  refine r_iload X169 (pc' := 199) at_197 rfl rfl ?_
  refine r_bipush X169 (pc' := 201) (v := (10 : Int32)) at_199 rfl rfl ?_
  refine r_icmp X169 (pc' := 209) (pc2 := 204) at_201 (by decide) (by decide) rfl (a := z1.toInt) (b := 10) rfl rfl (fun (cq233 : ¬ z1.toInt = 10) => ?_) (fun (cq233 : ¬ (¬ z1.toInt = 10)) => ?_)
  · refine r_iload X169 (pc' := 211) at_209 rfl rfl ?_
    exact J1 z1 (by omega)
  · refine r_bipush X169 (pc' := 206) (v := (9 : Int32)) at_204 rfl rfl ?_
    refine r_goto X169 (pc' := 211) at_206 (by decide) (by decide) ?_
    exact J1 (9 : Int32) (by show (9 : Int) = _; omega)
set_option maxRecDepth 65536 in
set_option maxHeartbeats 40000000 in
theorem comes_1 {Post : Tables → Env → Array Value → State → Outcome → State → Prop} (hpost : ∀ tb e args s v u, (limb_1_1.after args s (.returned v) u = true ∧ limb_1_2.after args s (.returned v) u = true ∧ True) → FrameEnd s (.returned v) u (Jvm.fieldLocs frame_1_writes args s ++ Jvm.arrayLocs frame_1_arrays args s ++ Jvm.staticLocs frame_1_statics s) 16 128 → Post tb e args s (.returned v) u) :
    ArmFor flags0 classFile x code maxLocals ret World_1 tables_1 room_1 Calls_1 rest_1 Pre_1 Post := by
  intro l hfl _ _ p e ha hc hk s m args below hf hA hF happ hP
  obtain ⟨hcalls, hrest, hpre⟩ := hP
  obtain ⟨-, -, -, hnamed, -, -, -, hat⟩ := (Spec.applies_iff hf).mp happ
  obtain ⟨hg, hn⟩ := and_e (Cond.before_iff.mp (show (Jvm.Cond.and given_1 narrow_1).before args s = true from hpre))
  obtain ⟨gc, gr0⟩ := and_e hg
  obtain ⟨gv0, gr1⟩ := and_e gr0
  obtain ⟨gv1, gr2⟩ := and_e gr1
  obtain ⟨w0, w1, w2, rfl⟩ : ∃ w0 w1 w2 : Value, args = #[w0, w1, w2] := by
    have hs : args.size = 3 := by simpa [Cond.value, given_1] using gc
    obtain ⟨L⟩ := args
    match L, hs with
    | [w0, w1, w2], _ => exact ⟨w0, w1, w2, rfl⟩
  have hw := fun d (hd : d ∈ tables_1) => atoms_spec (ws := Jvm.Cond.code x code maxLocals ret :: tables_1) hat d (List.mem_cons_of_mem _ hd)
  obtain ⟨i0, ei0⟩ := isL_v gv0
  obtain rfl : w0 = (.long i0) := Option.some.inj ei0
  obtain ⟨i1, ei1⟩ := isL_v gv1
  obtain rfl : w1 = (.long i1) := Option.some.inj ei1
  obtain ⟨i2, ei2⟩ := is_v gr2
  obtain rfl : w2 = (.int i2) := Option.some.inj ei2
  obtain ⟨n, o, h1, h2, h3, _, L, rfl, ⟨rfl, -, N⟩, hq⟩ := con_law l s _ hw i0 i1 i2 s.heap s.heap.size (Nat.le_refl _) tables_1 p e ha hc hk s m _ below hf ((Spec.applies_iff_loose hf).mp happ).1 ⟨rfl, State.Warmed39.refl s, rfl⟩ trivial
  refine ⟨n, _, h1, h2, h3, hpost _ _ _ _ _ _ ⟨Cond.after_iff.mpr rfl, Cond.after_iff.mpr (eq_i res_at (Term.int_eval (1)) rfl), trivial⟩ ⟨hq.1, hq.2.1, (hq.2.2.sift fun y hy => Or.inr (N y hy)).mono (by decide) (by decide)⟩⟩
theorem main_1_1 : Claimed_1_1 := comes_1 fun _ _ _ _ _ _ h hF => ⟨h.1, hF⟩
theorem main_1_2 : Claimed_1_2 := comes_1 fun _ _ _ _ _ _ h hF => ⟨h.2.1, hF⟩
end Jvm.Pilot.@@N@@
namespace Jvm.Pilot.@@N@@
open Jvm Jvm.ClassFile Sem Op Lib Jvm.Free Jvm.Stand Jvm.Pilot.@@N@@.Jvm.D
/-! MADE BY PROGRAM (witnessworld.py) out of the Statement's table words and the real class files: 9 classes; the members and pool entries that the words name. The judged class is class 1, her method 3. -/
namespace start1
open Jvm.ClassFile
def u (s : String) : CpInfo := .utf8 (stringToUtf16 s)
/-- a pool by its gaps: so many unusable entries, then the entry; so many at the end -/
def gap : Nat → List CpInfo → List CpInfo
  | 0, r => r
  | n + 1, r => .unusable :: gap n r
def poolList (es : List (Nat × CpInfo)) (last : Nat) : List CpInfo := es.foldr (fun e r => gap e.1 (e.2 :: r)) (gap last [])
def pool (es : List (Nat × CpInfo)) (last : Nat) : Array CpInfo := ⟨poolList es last⟩
def fileOf (pool : Array CpInfo) (this : Nat) (attrs : Array Attribute := #[]) (ms : Array MethodInfo := #[]) (fl : Nat := 33) (sup : Nat := 0) (ifs : Array Nat := #[]) (fds : Array FieldInfo := #[]) : ClassFile where
  minorVersion := 0
  majorVersion := 65
  constantPool := pool
  accessFlags := fl
  thisClass := this
  superClass := sup
  interfaces := ifs
  fields := fds
  methods := ms
  attributes := attrs
def plain (name : String) (sup : Option ClassId) : Class where
  name := name
  kind := .ordinary
  loader := none
  accessFlags := 33
  super := sup
  interfaces := #[]
  cf := none
  fields := #[]
  methods := #[]
  instanceTypes := #[]
  staticTypes := #[]
  resolved := #[]
  callSites := []
  init := .initialized
  statics := none
  mirror := none

def pool0 : Array CpInfo := pool [(5, u "<init>"), (0, u "()V"), (1, .class_ 10), (1, u "java/lang/Object")] 113

def k0c0 : Code := { maxStack := 0, maxLocals := 1, code := object_method_1_code, exceptionTable := #[], attributes := #[] }
def k0m0 : Method := { name := "<init>", desc := "()V", sig := { parameters := [], returnType := none }, accessFlags := 1, code := some k0c0 }
/-- java/lang/Object -/
def k0 : Class := { plain "java/lang/Object" none with
  accessFlags := 33
  interfaces := #[]
  cf := some (fileOf pool0 8 #[] #[{ accessFlags := 1, nameIndex := 5, descriptorIndex := 6, attributes := #[] }] 33 0 #[] #[])
  fields := #[]
  methods := #[k0m0]
  instanceTypes := #[]
  staticTypes := #[]
  resolved := Array.replicate 124 none
  statics := none }

def pool1 : Array CpInfo := pool [(2, .class_ 4), (1, u "java/lang/Object"), (0, u "<init>"), (0, u "()V"), (0, .long 18446744073709551615), (1, .methodref 10 11), (0, .class_ 12), (0, .nameAndType 13 14), (0, u "com/example/unigram_query_likelihood/unigramquerylikelihood/index/ArrayReaderNextPinLaw"), (0, u "stop"), (0, u "([BI)I"), (0, .methodref 10 16), (0, .nameAndType 17 18), (0, u "value"), (0, u "([BII)J"), (0, .class_ 20), (0, u "com/example/unigram_query_likelihood/unigramquerylikelihood/index/Varint$ArrayReader"), (0, .methodref 19 22), (0, .nameAndType 5 23), (0, u "([B)V"), (0, .methodref 19 25), (0, .nameAndType 26 27), (0, u "next"), (0, u "()J"), (0, .methodref 19 29), (0, .nameAndType 30 31), (0, u "atEnd"), (0, u "()Z"), (3, u "law"), (0, u "(JJI)Z")] 11

def k1m0 : Method := { name := "<init>", desc := "()V", sig := { parameters := [], returnType := none }, accessFlags := 2, code := none }
def k1c1 : Code := { maxStack := 3, maxLocals := 2, code := method_2_code, exceptionTable := #[], attributes := #[] }
def k1m1 : Method := { name := "stop", desc := "([BI)I", sig := { parameters := [(.array .byte), .int], returnType := some .int }, accessFlags := 10, code := some k1c1 }
def k1c2 : Code := { maxStack := 5, maxLocals := 5, code := method_3_code, exceptionTable := #[], attributes := #[] }
def k1m2 : Method := { name := "value", desc := "([BII)J", sig := { parameters := [(.array .byte), .int, .int], returnType := some .long }, accessFlags := 10, code := some k1c2 }
def k1c3 : Code := { maxStack := 5, maxLocals := 21, code := code, exceptionTable := #[], attributes := #[] }
def k1m3 : Method := { name := "law", desc := "(JJI)Z", sig := { parameters := [.long, .long, .int], returnType := some .boolean }, accessFlags := 9, code := some k1c3 }
/-- com/example/unigram_query_likelihood/unigramquerylikelihood/index/ArrayReaderNextPinLaw -/
def k1 : Class := { plain "com/example/unigram_query_likelihood/unigramquerylikelihood/index/ArrayReaderNextPinLaw" (some 0) with
  accessFlags := 49
  interfaces := #[]
  cf := some (fileOf pool1 10 #[] #[{ accessFlags := 2, nameIndex := 5, descriptorIndex := 6, attributes := #[] }, { accessFlags := 10, nameIndex := 13, descriptorIndex := 14, attributes := #[] }, { accessFlags := 10, nameIndex := 17, descriptorIndex := 18, attributes := #[] }, { accessFlags := 9, nameIndex := 35, descriptorIndex := 36, attributes := #[] }] 49 2 #[] #[])
  fields := #[]
  methods := #[k1m0, k1m1, k1m2, k1m3]
  instanceTypes := #[]
  staticTypes := #[]
  resolved := Array.replicate 48 none
  statics := none }

def pool2 : Array CpInfo := pool [(1, .class_ 2), (0, u "com/example/unigram_query_likelihood/unigramquerylikelihood/index/Varint"), (0, .methodref 4 5), (0, .class_ 6), (0, .nameAndType 7 8), (0, u "java/lang/Object"), (0, u "<init>"), (0, u "()V"), (0, .fieldref 10 11), (0, .class_ 12), (0, .nameAndType 13 14), (0, u "com/example/unigram_query_likelihood/unigramquerylikelihood/index/Varint$ArrayReader"), (0, u "bytes"), (0, u "[B"), (0, .fieldref 10 16), (0, .nameAndType 17 18), (0, u "position"), (0, u "I"), (3, .long 18446744073709551615), (1, u "([B)V"), (2, u "atEnd"), (0, u "()Z"), (1, u "next"), (0, u "()J")] 6

def k2c0 : Code := { maxStack := 2, maxLocals := 2, code := prog_85_method_1_code, exceptionTable := #[], attributes := #[] }
def k2m0 : Method := { name := "<init>", desc := "([B)V", sig := { parameters := [(.array .byte)], returnType := none }, accessFlags := 0, code := some k2c0 }
def k2c1 : Code := { maxStack := 2, maxLocals := 1, code := prog_85_method_2_code, exceptionTable := #[], attributes := #[] }
def k2m1 : Method := { name := "atEnd", desc := "()Z", sig := { parameters := [], returnType := some .boolean }, accessFlags := 0, code := some k2c1 }
def k2c2 : Code := { maxStack := 5, maxLocals := 5, code := prog_85_method_3_code, exceptionTable := #[], attributes := #[] }
def k2m2 : Method := { name := "next", desc := "()J", sig := { parameters := [], returnType := some .long }, accessFlags := 0, code := some k2c2 }
/-- com/example/unigram_query_likelihood/unigramquerylikelihood/index/Varint$ArrayReader -/
def k2 : Class := { plain "com/example/unigram_query_likelihood/unigramquerylikelihood/index/Varint$ArrayReader" (some 0) with
  accessFlags := 32
  interfaces := #[]
  cf := some (fileOf pool2 10 #[.nestHost 1] #[{ accessFlags := 0, nameIndex := 7, descriptorIndex := 24, attributes := #[] }, { accessFlags := 0, nameIndex := 27, descriptorIndex := 28, attributes := #[] }, { accessFlags := 0, nameIndex := 30, descriptorIndex := 31, attributes := #[] }] 32 4 #[] #[{ accessFlags := 18, nameIndex := 13, descriptorIndex := 14, attributes := #[] }, { accessFlags := 2, nameIndex := 17, descriptorIndex := 18, attributes := #[] }])
  fields := #[{ name := "bytes", type := (.array .byte), accessFlags := 18, slot := 0, constantValue := 0 }, { name := "position", type := .int, accessFlags := 2, slot := 1, constantValue := 0 }]
  methods := #[k2m0, k2m1, k2m2]
  instanceTypes := #[(.array .byte), .int]
  staticTypes := #[]
  resolved := Array.replicate 38 none
  statics := none }

def pool3 : Array CpInfo := pool [(1, u "java/lang/Cloneable"), (0, .class_ 1), (0, u "java/lang/Object"), (0, .class_ 3)] 3

/-- java/lang/Cloneable -/
def k3 : Class := { plain "java/lang/Cloneable" (some 0) with
  accessFlags := 1537
  interfaces := #[]
  cf := some (fileOf pool3 2 #[] #[] 1537 4 #[] #[])
  fields := #[]
  methods := #[]
  instanceTypes := #[]
  staticTypes := #[]
  resolved := Array.replicate 8 none
  statics := none }

def pool4 : Array CpInfo := pool [(1, u "java/io/Serializable"), (0, .class_ 1), (0, u "java/lang/Object"), (0, .class_ 3)] 3

/-- java/io/Serializable -/
def k4 : Class := { plain "java/io/Serializable" (some 0) with
  accessFlags := 1537
  interfaces := #[]
  cf := some (fileOf pool4 2 #[] #[] 1537 4 #[] #[])
  fields := #[]
  methods := #[]
  instanceTypes := #[]
  staticTypes := #[]
  resolved := Array.replicate 8 none
  statics := none }

/-- the primitive byte -/
def k5 : Class := { plain "byte" none with kind := .primitive 'B', accessFlags := 0x411 }
/-- [B -/
def k6 : Class := { plain "[B" (some 0) with kind := .array 5 .byte, interfaces := #[3, 4], accessFlags := 1041 }

/-- the primitive int -/
def k7 : Class := { plain "int" none with kind := .primitive 'I', accessFlags := 0x411 }
/-- [I -/
def k8 : Class := { plain "[I" (some 0) with kind := .array 7 .int, interfaces := #[3, 4], accessFlags := 1041 }

def heap : Heap := #[]
def classes : Array Class := #[k0, k1, k2, k3, k4, k5, k6, k7, k8]
def interned : List (Array UInt16 × Addr) := []
def slotsUsed : Nat := 0
def theMethod : MethodId := ⟨1, 3⟩
def args0 : Array Value := #[.long 5, .long 5, .int 5]
def aboutOver (below : List Frame) : State where
  vm := { classes := classes, interned := interned.toArray }
  heap := heap
  slotsUsed := slotsUsed
  threads := #[{ frames := .invoking theMethod args0 :: below }]
def below0 : List Frame := [.native { method := ⟨0, 0⟩, args := #[] }]
def about1 : State := aboutOver below0
def p0 : Program := .bare "" "" ""
def e0 : Env := launch0.env 0 0 0
theorem w_frames : about1.frames = Frame.invoking theMethod args0 :: below0 := rfl
set_option maxRecDepth 65536 in
theorem w_args : argsFit about1.vm theMethod args0 = true := by decide +kernel
set_option maxRecDepth 65536 in
theorem w_heap : heapFits about1 = true := by decide +kernel
set_option maxRecDepth 65536 in
theorem w_runnable : about1.curStatus? = some .runnable := by decide +kernel
set_option maxRecDepth 65536 in
theorem w_alone : about1.alone = true := by decide +kernel
set_option maxRecDepth 65536 in
theorem w_named : about1.methodNamed? x = some theMethod := by decide +kernel
set_option maxRecDepth 65536 in
theorem w_hears : about1.hears theMethod below0 = true := by decide +kernel
set_option maxRecDepth 65536 in
theorem w_ripe : about1.ripe theMethod args0 below0 = true := by decide +kernel
theorem w_running : about1.status = .running := rfl
set_option maxRecDepth 65536 in
theorem w_room : about1.hasRoom e0.platform room_1 = true :=
  launch0.hasRoom_least _ room_1 (by decide +kernel) (by decide +kernel) (by decide +kernel) (by decide +kernel) (by decide +kernel) (by decide +kernel)
theorem allAtoms_all (ts : List Jvm.Cond) (a : Array Jvm.Value) (st : Jvm.State) : (allAtoms ts).before a st = ts.all (fun c => c.before a st) := by
  induction ts with
  | nil => rfl
  | cons c t ih =>
    show (Jvm.Cond.and c (allAtoms t)).before a st = _
    rw [Jvm.Cond.before_and, ih, List.all_cons]
def words1 : List Jvm.Cond := Jvm.Cond.code x code maxLocals ret :: tables_1
/-- a 'code' word, met by the world's own term for the bytes: nothing is compared byte by byte -/
theorem code_word {y : MethodName} {bytes : ByteArray} {mx : Nat} {rt : Option FieldType} {a : Array Value} {s : State} {m : MethodId} {meth : Method} {c : Code} (h1 : s.methodNamed? y = some m) (h2 : s.vm.method? m = some meth) (h3 : meth.code = some c) (h4 : c.code = bytes)
    (h5 : (c.maxLocals == mx && c.exceptionTable.isEmpty && decide (c.maxStack ≤ mostOperands) && decide (meth.sig.returnType = rt) && !meth.locks && decide (parseMethodDescriptor y.desc = some meth.sig)) = true) : (Jvm.Cond.code y bytes mx rt).before a s = true := by
  simp only [Bool.and_eq_true, beq_iff_eq, Bool.not_eq_true', decide_eq_true_eq] at h5
  obtain ⟨⟨⟨⟨⟨g1, g2⟩, g3⟩, g4⟩, g5⟩, g6⟩ := h5
  simp [Cond.before, Cond.holds, Cond.value, h1, h2, h3, h4, g1, g2, g3, g4, g5, g6]
def isCode : Jvm.Cond → Bool
  | .code _ _ _ _ => true
  | _ => false
theorem all_split {L : List Jvm.Cond} {P : Jvm.Cond → Bool} (h1 : L.all (fun c => isCode c || P c) = true) (h2 : ∀ c ∈ L.filter isCode, P c = true) : L.all P = true := by
  refine List.all_eq_true.mpr fun c hc => ?_
  have h := List.all_eq_true.mp h1 c hc
  rcases Bool.eq_false_or_eq_true (isCode c) with hi | hi
  · exact h2 c (List.mem_filter.mpr ⟨hc, hi⟩)
  · simpa [hi] using h
set_option maxRecDepth 65536 in
theorem w_c0 : (Jvm.Cond.code x code maxLocals ret).before args0 about1 = true := code_word (m := ⟨1, 3⟩) (meth := k1m3) (c := k1c3) (by decide +kernel) rfl rfl rfl (by decide +kernel)
set_option maxRecDepth 65536 in
theorem w_c1 : (Jvm.Cond.code ({ cls := "com/example/unigram_query_likelihood/unigramquerylikelihood/index/ArrayReaderNextPinLaw", name := "stop", desc := "([BI)I" } : Jvm.MethodName) method_2_code (2 : Nat) (Option.some Jvm.ClassFile.FieldType.int)).before args0 about1 = true := code_word (m := ⟨1, 1⟩) (meth := k1m1) (c := k1c1) (by decide +kernel) rfl rfl rfl (by decide +kernel)
set_option maxRecDepth 65536 in
theorem w_c2 : (Jvm.Cond.code ({ cls := "com/example/unigram_query_likelihood/unigramquerylikelihood/index/ArrayReaderNextPinLaw", name := "value", desc := "([BII)J" } : Jvm.MethodName) method_3_code (5 : Nat) (Option.some Jvm.ClassFile.FieldType.long)).before args0 about1 = true := code_word (m := ⟨1, 2⟩) (meth := k1m2) (c := k1c2) (by decide +kernel) rfl rfl rfl (by decide +kernel)
set_option maxRecDepth 65536 in
theorem w_c3 : (Jvm.Cond.code ({ cls := "com/example/unigram_query_likelihood/unigramquerylikelihood/index/Varint$ArrayReader", name := "<init>", desc := "([B)V" } : Jvm.MethodName) prog_85_method_1_code (2 : Nat) (Option.none : Option Jvm.ClassFile.FieldType)).before args0 about1 = true := code_word (m := ⟨2, 0⟩) (meth := k2m0) (c := k2c0) (by decide +kernel) rfl rfl rfl (by decide +kernel)
set_option maxRecDepth 65536 in
theorem w_c4 : (Jvm.Cond.code ({ cls := "java/lang/Object", name := "<init>", desc := "()V" } : Jvm.MethodName) object_method_1_code (1 : Nat) (Option.none : Option Jvm.ClassFile.FieldType)).before args0 about1 = true := code_word (m := ⟨0, 0⟩) (meth := k0m0) (c := k0c0) (by decide +kernel) rfl rfl rfl (by decide +kernel)
set_option maxRecDepth 65536 in
theorem w_c5 : (Jvm.Cond.code ({ cls := "com/example/unigram_query_likelihood/unigramquerylikelihood/index/Varint$ArrayReader", name := "next", desc := "()J" } : Jvm.MethodName) prog_85_method_3_code (5 : Nat) (Option.some Jvm.ClassFile.FieldType.long)).before args0 about1 = true := code_word (m := ⟨2, 2⟩) (meth := k2m2) (c := k2c2) (by decide +kernel) rfl rfl rfl (by decide +kernel)
set_option maxRecDepth 65536 in
theorem w_c6 : (Jvm.Cond.code ({ cls := "com/example/unigram_query_likelihood/unigramquerylikelihood/index/Varint$ArrayReader", name := "atEnd", desc := "()Z" } : Jvm.MethodName) prog_85_method_2_code (1 : Nat) (Option.some Jvm.ClassFile.FieldType.boolean)).before args0 about1 = true := code_word (m := ⟨2, 1⟩) (meth := k2m1) (c := k2c1) (by decide +kernel) rfl rfl rfl (by decide +kernel)
def codes1 : List Jvm.Cond := [Jvm.Cond.code x code maxLocals ret, Jvm.Cond.code ({ cls := "com/example/unigram_query_likelihood/unigramquerylikelihood/index/ArrayReaderNextPinLaw", name := "stop", desc := "([BI)I" } : Jvm.MethodName) method_2_code (2 : Nat) (Option.some Jvm.ClassFile.FieldType.int), Jvm.Cond.code ({ cls := "com/example/unigram_query_likelihood/unigramquerylikelihood/index/ArrayReaderNextPinLaw", name := "value", desc := "([BII)J" } : Jvm.MethodName) method_3_code (5 : Nat) (Option.some Jvm.ClassFile.FieldType.long), Jvm.Cond.code ({ cls := "com/example/unigram_query_likelihood/unigramquerylikelihood/index/Varint$ArrayReader", name := "<init>", desc := "([B)V" } : Jvm.MethodName) prog_85_method_1_code (2 : Nat) (Option.none : Option Jvm.ClassFile.FieldType), Jvm.Cond.code ({ cls := "java/lang/Object", name := "<init>", desc := "()V" } : Jvm.MethodName) object_method_1_code (1 : Nat) (Option.none : Option Jvm.ClassFile.FieldType), Jvm.Cond.code ({ cls := "com/example/unigram_query_likelihood/unigramquerylikelihood/index/Varint$ArrayReader", name := "next", desc := "()J" } : Jvm.MethodName) prog_85_method_3_code (5 : Nat) (Option.some Jvm.ClassFile.FieldType.long), Jvm.Cond.code ({ cls := "com/example/unigram_query_likelihood/unigramquerylikelihood/index/Varint$ArrayReader", name := "atEnd", desc := "()Z" } : Jvm.MethodName) prog_85_method_2_code (1 : Nat) (Option.some Jvm.ClassFile.FieldType.boolean)]
set_option maxRecDepth 65536 in
theorem codes_eq : words1.filter isCode = codes1 := rfl
theorem w_codes : ∀ c ∈ words1.filter isCode, c.before args0 about1 = true := by
  rw [codes_eq]
  intro c hc
  simp only [codes1, List.mem_cons, List.not_mem_nil, or_false] at hc
  rcases hc with rfl | rfl | rfl | rfl | rfl | rfl | rfl
  · exact w_c0
  · exact w_c1
  · exact w_c2
  · exact w_c3
  · exact w_c4
  · exact w_c5
  · exact w_c6
set_option maxRecDepth 65536 in
theorem w_t1 : (words1.take 24).all (fun c => isCode c || c.before args0 about1) = true := by decide +kernel
set_option maxRecDepth 65536 in
theorem w_t2 : (words1.drop 24).all (fun c => isCode c || c.before args0 about1) = true := by decide +kernel
theorem w_tables : (allAtoms (Jvm.Cond.code x code maxLocals ret :: tables_1)).before args0 about1 = true := by
  rw [allAtoms_all]
  show words1.all (fun c => c.before args0 about1) = true
  refine all_split ?_ w_codes
  rw [← List.take_append_drop 24 words1, List.all_append, w_t1, w_t2]
  rfl
set_option maxRecDepth 65536 in
theorem w_case : (Jvm.Cond.and given_1 narrow_1).before args0 about1 = true := by decide +kernel
theorem w_applies : (headSpec (Jvm.Cond.code x code maxLocals ret :: tables_1) room_1).applies x e0.platform about1 = true :=
  (Spec.applies_iff w_frames).mpr ⟨w_running, w_runnable, w_alone, w_named, w_hears, w_ripe, w_room, w_tables⟩
theorem atStart : AtStart classFile x code maxLocals ret World_1 tables_1 room_1 Calls_1 rest_1 Pre_1 launch0 p0 e0 about1 theMethod args0 below0 :=
  ⟨lists_1, trivial, launch0.admits_env _ _ _, launch0.least_env, fairChoices_fair.cas, fairChoices_fair.clock, w_frames, w_args, w_heap, w_applies, trivial, trivial, w_case⟩
end start1
theorem witness_1 : WitnessClaimed_1 := ⟨start1.p0, start1.e0, start1.about1, start1.theMethod, start1.args0, start1.below0, start1.atStart⟩
end Jvm.Pilot.@@N@@
