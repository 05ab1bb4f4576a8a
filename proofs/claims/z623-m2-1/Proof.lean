import JvmDerived
import JvmDerived.Pilot.@@N@@Statement
import JvmDerived.Pilot.@@N@@Code
set_option linter.unusedVariables false
set_option linter.unusedSimpArgs false
@@BLOCK:NumsL.lean.txt@@
namespace Jvm.Pilot.@@N@@
open Jvm Jvm.ClassFile Sem Op Lib Jvm.Free Jvm.Stand Jvm.LawKit Jvm.RoadKit Bundle Jvm.Pilot.@@N@@.Jvm.D
section Own
variable {p : Program} {l : Launch} {e : Env} {R : Room} {s : State} {m : MethodId} {args : Array Value} {below : List Frame} {meth : Method} {c : Code} {Z : State} {a0 : Array Value} {own nm : String} {bs : ByteArray} {ml : Nat} {rt : Option FieldType} {n0 kc ks : Nat} {Q : Option Value → Heap → Prop} {F : Outcome → State → Prop} {T : State} {h : Heap} {k n : Nat} {pc pc' pc2 : Nat} {ls ls' : Array Slot} {st : List Value}
/-- all that a walk knows where it stands -/
def Here (p : Program) (l : Launch) (e : Env) (R : Room) (s : State) (m : MethodId) (args : Array Value) (below : List Frame) (meth : Method) (c : Code) (Z : State) (own nm : String) (bs : ByteArray) (ml : Nat) (rt : Option FieldType) (n0 : Nat) (T : State) (h : Heap) (k n : Nat) : Prop :=
  (p.tables.exec = Jvm.exec ∧ c.code = bs ∧ c.maxLocals = ml ∧ Z.Warmed39 s.vm ∧ s.vm.findClass own = some m.cls ∧ meth.name = nm ∧ meth.sig.returnType = rt ∧ meth.locks = false) ∧ n0 ≤ h.size ∧ T.heap = h ∧ ∃ locs, Stand p l e R s m args below meth c T locs k n ∧ Fr n0 locs
/-- from here the method returns, as Q says -/
def Run (p : Program) (e : Env) (below : List Frame) (F : Outcome → State → Prop) (T : State) (g : JFrame) : Prop :=
  ∃ s₂ o, Steps p.tables e below (T.setTop g) s₂ ∧ s₂.status = .running ∧ Ended s₂ below o ∧ F o s₂
/-- what a body's end owes -/
def Fnl (s : State) (n0 kc ks : Nat) (Q : Option Value → Heap → Prop) (o : Outcome) (s₂ : State) : Prop := ∃ v L, o = .returned v ∧ (Q v s₂.heap ∧ n0 ≤ s₂.heap.size ∧ Fr n0 L) ∧ FrameEnd s o s₂ L kc ks
/-- a body's contract -/
def Con (l : Launch) (Z : State) (y : MethodName) (bs : ByteArray) (ml : Nat) (rt : Option FieldType) (rm : Room) (as : Array Value) (h0 : Heap) (n0 kc ks : Nat) (Q : Option Value → Heap → Prop) : Prop :=
  ∀ ws, MetFree l y (head1 (Jvm.Cond.code y bs ml rt :: ws) rm) (fun a U => a = as ∧ Z.Warmed39 U.vm ∧ U.heap = h0) (fun _ _ _ _ _ => True) (fun _ U o U' => ∃ v L, o = .returned v ∧ (Q v U'.heap ∧ n0 ≤ U'.heap.size ∧ Fr n0 L) ∧ FrameEnd U o U' L kc ks)
theorem Run.of {T' : State} {g g' : JFrame} (q : ∀ t, Steps p.tables e below (T'.setTop g') t → Steps p.tables e below (T.setTop g) t) (r : Run p e below F T' g') : Run p e below F T g := by
  obtain ⟨s₂, o, w, r⟩ := r; exact ⟨s₂, o, q _ w, r⟩
theorem Con.of_body {y : MethodName} {rm : Room} {as : Array Value} (hp : plainName y.cls = true) (hef : ∀ m, entryFrame m as ml = mkF m 0 ls []) (Z0 : n0 ≤ h.size)
    (body : ∀ p e s m below meth c T, Here p l e rm s m as below meth c Z y.cls y.name bs ml rt n0 T h 0 0 → Run p e below (Fnl s n0 kc ks Q) T (mkF m 0 ls [])) : Con l Z y bs ml rt rm as h n0 kc ks Q := by
  intro ws
  refine MetFree.of_bodySF (plainFor_of_name hp) hisR ?_
  intro p e s m args below meth c s₁ Bd hml0 hP hK
  obtain ⟨rfl, hZ, hh⟩ := hP
  have e0 : s₁.heap = h := by rw [← hh, Bd.state]; rfl
  obtain ⟨s₂, o, q, r⟩ := body p e s m below meth c s₁ ⟨⟨Bd.exec, Bd.bytes, hml0, hZ, findClass_of_methodNamed Bd.named, (name_of_methodNamed Bd.named Bd.method).1, Bd.returns, Bd.notSynchronized⟩, Z0, e0, [], Stand.of_body Bd, Fr.nil n0⟩
  exact ⟨s₂, o, castTop (hef m) q, r⟩
theorem Here.sz (X : Here p l e R s m args below meth c Z own nm bs ml rt n0 T h k n) : n0 ≤ h.size := X.2.1
/-- the k-th word of the sheet -/
theorem wd (hw : ∀ d ∈ tables_1, d.before a0 Z = true) (i : Nat) {d : Jvm.Cond} (q : tables_1[i]? = some d) : d.before a0 Z = true := hw _ (List.mem_of_getElem? q)
def cnd : ClassFile.Cond → Int → Int → Prop
  | .eq, x, y => x = y
  | .ne, x, y => ¬ x = y
  | .lt, x, y => x < y
  | .ge, x, y => y ≤ x
  | .gt, x, y => y < x
  | .le, x, y => x ≤ y
theorem cnd_iff (cd : ClassFile.Cond) (x y : Int32) : if_icmp.holds cd x y = true ↔ cnd cd x.toInt y.toInt := by
  cases cd <;> simp [if_icmp.holds, cnd, Int32.lt_iff_toInt_lt, Int32.le_iff_toInt_le, ← Int32.toInt_inj]
theorem r_aloadN (X : Here p l e R s m args below meth c Z own nm bs ml rt n0 T h k n) {i : Fin 4} {a : Addr} (hd : decode bs pc = .ok (.aload_n i, 1)) (hl : ls[i.val]? = some (.val (.ref a))) (hp : pc + 1 = pc') (r : Run p e below F T (mkF m pc' ls (.ref a :: st))) : Run p e below F T (mkF m pc ls st) := by
  obtain ⟨⟨hx, hby, hml, hZ, hown, hnm, hret, hlk⟩, hs0, eT, locs, S, N⟩ := X
  subst hp
  exact Run.of (fun t q => XS.aloadN S.here hx rfl (hb hby hd) hl rfl q) r
theorem r_aload (X : Here p l e R s m args below meth c Z own nm bs ml rt n0 T h k n) {i : Nat} {a : Addr} (hd : decode bs pc = .ok (.aload i, 2)) (hl : ls[i]? = some (.val (.ref a))) (hp : pc + 2 = pc') (r : Run p e below F T (mkF m pc' ls (.ref a :: st))) : Run p e below F T (mkF m pc ls st) := by
  obtain ⟨⟨hx, hby, hml, hZ, hown, hnm, hret, hlk⟩, hs0, eT, locs, S, N⟩ := X
  subst hp
  exact Run.of (fun t q => XS.aload S.here hx rfl (hb hby hd) hl rfl q) r
theorem r_iloadN (X : Here p l e R s m args below meth c Z own nm bs ml rt n0 T h k n) {i : Fin 4} {v : Int32} (hd : decode bs pc = .ok (.iload_n i, 1)) (hl : ls[i.val]? = some (.val (.int v))) (hp : pc + 1 = pc') (r : Run p e below F T (mkF m pc' ls (.int v :: st))) : Run p e below F T (mkF m pc ls st) := by
  obtain ⟨⟨hx, hby, hml, hZ, hown, hnm, hret, hlk⟩, hs0, eT, locs, S, N⟩ := X
  subst hp
  exact Run.of (fun t q => XS.iloadN S.here hx rfl (hb hby hd) hl q) r
theorem r_iload (X : Here p l e R s m args below meth c Z own nm bs ml rt n0 T h k n) {i : Nat} {v : Int32} (hd : decode bs pc = .ok (.iload i, 2)) (hl : ls[i]? = some (.val (.int v))) (hp : pc + 2 = pc') (r : Run p e below F T (mkF m pc' ls (.int v :: st))) : Run p e below F T (mkF m pc ls st) := by
  obtain ⟨⟨hx, hby, hml, hZ, hown, hnm, hret, hlk⟩, hs0, eT, locs, S, N⟩ := X
  subst hp
  exact Run.of (fun t q => XS.iload S.here hx rfl (hb hby hd) hl q) r
theorem r_lloadN (X : Here p l e R s m args below meth c Z own nm bs ml rt n0 T h k n) {i : Fin 4} {v : Int64} (hd : decode bs pc = .ok (.lload_n i, 1)) (hl : ls[i.val]? = some (.val (.long v))) (hp : pc + 1 = pc') (r : Run p e below F T (mkF m pc' ls (.long v :: st))) : Run p e below F T (mkF m pc ls st) := by
  obtain ⟨⟨hx, hby, hml, hZ, hown, hnm, hret, hlk⟩, hs0, eT, locs, S, N⟩ := X
  subst hp
  exact Run.of (fun t q => XT.lloadN S.here hx rfl (hb hby hd) hl q) r
theorem r_lload (X : Here p l e R s m args below meth c Z own nm bs ml rt n0 T h k n) {i : Nat} {v : Int64} (hd : decode bs pc = .ok (.lload i, 2)) (hl : ls[i]? = some (.val (.long v))) (hp : pc + 2 = pc') (r : Run p e below F T (mkF m pc' ls (.long v :: st))) : Run p e below F T (mkF m pc ls st) := by
  obtain ⟨⟨hx, hby, hml, hZ, hown, hnm, hret, hlk⟩, hs0, eT, locs, S, N⟩ := X
  subst hp
  exact Run.of (fun t q => XT.lload S.here hx rfl (hb hby hd) hl q) r
theorem r_istoreN (X : Here p l e R s m args below meth c Z own nm bs ml rt n0 T h k n) {i : Fin 4} {v : Int32} (hd : decode bs pc = .ok (.istore_n i, 1)) (hl : storeLocals ls i.val (.int v) = some ls') (hp : pc + 1 = pc') (r : Run p e below F T (mkF m pc' ls' st)) : Run p e below F T (mkF m pc ls (.int v :: st)) := by
  obtain ⟨⟨hx, hby, hml, hZ, hown, hnm, hret, hlk⟩, hs0, eT, locs, S, N⟩ := X
  subst hp
  exact Run.of (fun t q => XS.istoreN S.here hx rfl (hb hby hd) rfl hl q) r
theorem r_istore (X : Here p l e R s m args below meth c Z own nm bs ml rt n0 T h k n) {i : Nat} {v : Int32} (hd : decode bs pc = .ok (.istore i, 2)) (hl : storeLocals ls i (.int v) = some ls') (hp : pc + 2 = pc') (r : Run p e below F T (mkF m pc' ls' st)) : Run p e below F T (mkF m pc ls (.int v :: st)) := by
  obtain ⟨⟨hx, hby, hml, hZ, hown, hnm, hret, hlk⟩, hs0, eT, locs, S, N⟩ := X
  subst hp
  exact Run.of (fun t q => XS.istore S.here hx rfl (hb hby hd) rfl hl q) r
theorem r_lstoreN (X : Here p l e R s m args below meth c Z own nm bs ml rt n0 T h k n) {i : Fin 4} {v : Int64} (hd : decode bs pc = .ok (.lstore_n i, 1)) (hl : storeLocals ls i.val (.long v) = some ls') (hp : pc + 1 = pc') (r : Run p e below F T (mkF m pc' ls' st)) : Run p e below F T (mkF m pc ls (.long v :: st)) := by
  obtain ⟨⟨hx, hby, hml, hZ, hown, hnm, hret, hlk⟩, hs0, eT, locs, S, N⟩ := X
  subst hp
  exact Run.of (fun t q => XT.lstoreN S.here hx rfl (hb hby hd) rfl hl q) r
theorem r_lstore (X : Here p l e R s m args below meth c Z own nm bs ml rt n0 T h k n) {i : Nat} {v : Int64} (hd : decode bs pc = .ok (.lstore i, 2)) (hl : storeLocals ls i (.long v) = some ls') (hp : pc + 2 = pc') (r : Run p e below F T (mkF m pc' ls' st)) : Run p e below F T (mkF m pc ls (.long v :: st)) := by
  obtain ⟨⟨hx, hby, hml, hZ, hown, hnm, hret, hlk⟩, hs0, eT, locs, S, N⟩ := X
  subst hp
  exact Run.of (fun t q => XT.lstore S.here hx rfl (hb hby hd) rfl hl q) r
theorem r_astoreN (X : Here p l e R s m args below meth c Z own nm bs ml rt n0 T h k n) {i : Fin 4} {v : Addr} (hd : decode bs pc = .ok (.astore_n i, 1)) (hl : storeLocals ls i.val (.ref v) = some ls') (hp : pc + 1 = pc') (r : Run p e below F T (mkF m pc' ls' st)) : Run p e below F T (mkF m pc ls (.ref v :: st)) := by
  obtain ⟨⟨hx, hby, hml, hZ, hown, hnm, hret, hlk⟩, hs0, eT, locs, S, N⟩ := X
  subst hp
  exact Run.of (fun t q => XS.astoreN S.here hx rfl (hb hby hd) rfl rfl hl q) r
theorem r_astore (X : Here p l e R s m args below meth c Z own nm bs ml rt n0 T h k n) {i : Nat} {v : Addr} (hd : decode bs pc = .ok (.astore i, 2)) (hl : storeLocals ls i (.ref v) = some ls') (hp : pc + 2 = pc') (r : Run p e below F T (mkF m pc' ls' st)) : Run p e below F T (mkF m pc ls (.ref v :: st)) := by
  obtain ⟨⟨hx, hby, hml, hZ, hown, hnm, hret, hlk⟩, hs0, eT, locs, S, N⟩ := X
  subst hp
  exact Run.of (fun t q => XS.astore S.here hx rfl (hb hby hd) rfl rfl hl q) r
theorem r_iconst (X : Here p l e R s m args below meth c Z own nm bs ml rt n0 T h k n) {i : Int} {v : Int32} (hd : decode bs pc = .ok (.iconst i, 1)) (hv : Int32.ofInt i = v) (hp : pc + 1 = pc') (r : Run p e below F T (mkF m pc' ls (.int v :: st))) : Run p e below F T (mkF m pc ls st) := by
  obtain ⟨⟨hx, hby, hml, hZ, hown, hnm, hret, hlk⟩, hs0, eT, locs, S, N⟩ := X
  subst hp
  exact Run.of (fun t q => XS.iconst S.here hx rfl (hb hby hd) (by rw [hv]; exact q)) r
theorem r_bipush (X : Here p l e R s m args below meth c Z own nm bs ml rt n0 T h k n) {i : Int} {v : Int32} (hd : decode bs pc = .ok (.bipush i, 2)) (hv : (Int8.ofInt i).toInt32 = v) (hp : pc + 2 = pc') (r : Run p e below F T (mkF m pc' ls (.int v :: st))) : Run p e below F T (mkF m pc ls st) := by
  obtain ⟨⟨hx, hby, hml, hZ, hown, hnm, hret, hlk⟩, hs0, eT, locs, S, N⟩ := X
  subst hp
  exact Run.of (fun t q => XS.bipush S.here hx rfl (hb hby hd) (by rw [hv]; exact q)) r
theorem r_sipush (X : Here p l e R s m args below meth c Z own nm bs ml rt n0 T h k n) {i : Int} {v : Int32} (hd : decode bs pc = .ok (.sipush i, 3)) (hv : (Int16.ofInt i).toInt32 = v) (hp : pc + 3 = pc') (r : Run p e below F T (mkF m pc' ls (.int v :: st))) : Run p e below F T (mkF m pc ls st) := by
  obtain ⟨⟨hx, hby, hml, hZ, hown, hnm, hret, hlk⟩, hs0, eT, locs, S, N⟩ := X
  subst hp
  exact Run.of (fun t q => XS.sipush S.here hx rfl (hb hby hd) (by rw [hv]; exact q)) r
theorem r_lconst (X : Here p l e R s m args below meth c Z own nm bs ml rt n0 T h k n) {i : Fin 2} {v : Int64} (hd : decode bs pc = .ok (.lconst i, 1)) (hv : Int64.ofNat i = v) (hp : pc + 1 = pc') (r : Run p e below F T (mkF m pc' ls (.long v :: st))) : Run p e below F T (mkF m pc ls st) := by
  obtain ⟨⟨hx, hby, hml, hZ, hown, hnm, hret, hlk⟩, hs0, eT, locs, S, N⟩ := X
  subst hp
  exact Run.of (fun t q => XT.lconst S.here hx rfl (hb hby hd) (by rw [hv]; exact q)) r
theorem r_ldcI (X : Here p l e R s m args below meth c Z own nm bs ml rt n0 T h k n) {i : Nat} {v : Int32} (hd : decode bs pc = .ok (.ldc i, 2)) (w : (Jvm.Cond.constant own i v).before a0 Z = true) (hp : pc + 2 = pc') (r : Run p e below F T (mkF m pc' ls (.int v :: st))) : Run p e below F T (mkF m pc ls st) := by
  obtain ⟨⟨hx, hby, hml, hZ, hown, hnm, hret, hlk⟩, hs0, eT, locs, S, N⟩ := X
  subst hp
  exact Run.of (fun t q => S.ldcI hx hown (mvT hZ w) rfl (hb hby hd) q) r
theorem r_ldc2J (X : Here p l e R s m args below meth c Z own nm bs ml rt n0 T h k n) {i : Nat} {v : Int64} (hd : decode bs pc = .ok (.ldc2_w i, 3)) (w : (Jvm.Cond.constantLong own i v).before a0 Z = true) (hp : pc + 3 = pc') (r : Run p e below F T (mkF m pc' ls (.long v :: st))) : Run p e below F T (mkF m pc ls st) := by
  obtain ⟨⟨hx, hby, hml, hZ, hown, hnm, hret, hlk⟩, hs0, eT, locs, S, N⟩ := X
  subst hp
  exact Run.of (fun t q => S.ldc2J hx hown (mvT hZ w) rfl (hb hby hd) q) r
theorem r_iadd (X : Here p l e R s m args below meth c Z own nm bs ml rt n0 T h k n) {x y z : Int32} (hd : decode bs pc = .ok (.iadd, 1)) (hv : x + y = z) (hp : pc + 1 = pc') (r : Run p e below F T (mkF m pc' ls (.int z :: st))) : Run p e below F T (mkF m pc ls (.int y :: .int x :: st)) := by
  obtain ⟨⟨hx, hby, hml, hZ, hown, hnm, hret, hlk⟩, hs0, eT, locs, S, N⟩ := X
  subst hp
  exact Run.of (fun t q => XS.iadd S.here hx rfl (hb hby hd) rfl (by rw [hv]; exact q)) r
theorem r_isub (X : Here p l e R s m args below meth c Z own nm bs ml rt n0 T h k n) {x y z : Int32} (hd : decode bs pc = .ok (.isub, 1)) (hv : x - y = z) (hp : pc + 1 = pc') (r : Run p e below F T (mkF m pc' ls (.int z :: st))) : Run p e below F T (mkF m pc ls (.int y :: .int x :: st)) := by
  obtain ⟨⟨hx, hby, hml, hZ, hown, hnm, hret, hlk⟩, hs0, eT, locs, S, N⟩ := X
  subst hp
  exact Run.of (fun t q => XS.isub S.here hx rfl (hb hby hd) rfl (by rw [hv]; exact q)) r
theorem r_imul (X : Here p l e R s m args below meth c Z own nm bs ml rt n0 T h k n) {x y z : Int32} (hd : decode bs pc = .ok (.imul, 1)) (hv : x * y = z) (hp : pc + 1 = pc') (r : Run p e below F T (mkF m pc' ls (.int z :: st))) : Run p e below F T (mkF m pc ls (.int y :: .int x :: st)) := by
  obtain ⟨⟨hx, hby, hml, hZ, hown, hnm, hret, hlk⟩, hs0, eT, locs, S, N⟩ := X
  subst hp
  exact Run.of (fun t q => XS.imul S.here hx rfl (hb hby hd) rfl (by rw [hv]; exact q)) r
theorem r_iand (X : Here p l e R s m args below meth c Z own nm bs ml rt n0 T h k n) {x y z : Int32} (hd : decode bs pc = .ok (.iand, 1)) (hv : x &&& y = z) (hp : pc + 1 = pc') (r : Run p e below F T (mkF m pc' ls (.int z :: st))) : Run p e below F T (mkF m pc ls (.int y :: .int x :: st)) := by
  obtain ⟨⟨hx, hby, hml, hZ, hown, hnm, hret, hlk⟩, hs0, eT, locs, S, N⟩ := X
  subst hp
  exact Run.of (fun t q => XS.iand S.here hx rfl (hb hby hd) rfl (by rw [hv]; exact q)) r
theorem r_ior (X : Here p l e R s m args below meth c Z own nm bs ml rt n0 T h k n) {x y z : Int32} (hd : decode bs pc = .ok (.ior, 1)) (hv : x ||| y = z) (hp : pc + 1 = pc') (r : Run p e below F T (mkF m pc' ls (.int z :: st))) : Run p e below F T (mkF m pc ls (.int y :: .int x :: st)) := by
  obtain ⟨⟨hx, hby, hml, hZ, hown, hnm, hret, hlk⟩, hs0, eT, locs, S, N⟩ := X
  subst hp
  exact Run.of (fun t q => XT.ior S.here hx rfl (hb hby hd) rfl (by rw [hv]; exact q)) r
theorem r_ixor (X : Here p l e R s m args below meth c Z own nm bs ml rt n0 T h k n) {x y z : Int32} (hd : decode bs pc = .ok (.ixor, 1)) (hv : x ^^^ y = z) (hp : pc + 1 = pc') (r : Run p e below F T (mkF m pc' ls (.int z :: st))) : Run p e below F T (mkF m pc ls (.int y :: .int x :: st)) := by
  obtain ⟨⟨hx, hby, hml, hZ, hown, hnm, hret, hlk⟩, hs0, eT, locs, S, N⟩ := X
  subst hp
  exact Run.of (fun t q => XT.ixor S.here hx rfl (hb hby hd) rfl (by rw [hv]; exact q)) r
theorem r_ishl (X : Here p l e R s m args below meth c Z own nm bs ml rt n0 T h k n) {x y z : Int32} (hd : decode bs pc = .ok (.ishl, 1)) (hv : x <<< (y &&& 31) = z) (hp : pc + 1 = pc') (r : Run p e below F T (mkF m pc' ls (.int z :: st))) : Run p e below F T (mkF m pc ls (.int y :: .int x :: st)) := by
  obtain ⟨⟨hx, hby, hml, hZ, hown, hnm, hret, hlk⟩, hs0, eT, locs, S, N⟩ := X
  subst hp
  exact Run.of (fun t q => XT.ishl S.here hx rfl (hb hby hd) rfl (by rw [hv]; exact q)) r
theorem r_ishr (X : Here p l e R s m args below meth c Z own nm bs ml rt n0 T h k n) {x y z : Int32} (hd : decode bs pc = .ok (.ishr, 1)) (hv : x >>> (y &&& 31) = z) (hp : pc + 1 = pc') (r : Run p e below F T (mkF m pc' ls (.int z :: st))) : Run p e below F T (mkF m pc ls (.int y :: .int x :: st)) := by
  obtain ⟨⟨hx, hby, hml, hZ, hown, hnm, hret, hlk⟩, hs0, eT, locs, S, N⟩ := X
  subst hp
  exact Run.of (fun t q => XT.ishr S.here hx rfl (hb hby hd) rfl (by rw [hv]; exact q)) r
theorem r_iushr (X : Here p l e R s m args below meth c Z own nm bs ml rt n0 T h k n) {x y z : Int32} (hd : decode bs pc = .ok (.iushr, 1)) (hv : XT.ushr x y = z) (hp : pc + 1 = pc') (r : Run p e below F T (mkF m pc' ls (.int z :: st))) : Run p e below F T (mkF m pc ls (.int y :: .int x :: st)) := by
  obtain ⟨⟨hx, hby, hml, hZ, hown, hnm, hret, hlk⟩, hs0, eT, locs, S, N⟩ := X
  subst hp
  exact Run.of (fun t q => XT.iushr S.here hx rfl (hb hby hd) rfl (by rw [hv]; exact q)) r
theorem r_irem (X : Here p l e R s m args below meth c Z own nm bs ml rt n0 T h k n) {x y z : Int32} (hd : decode bs pc = .ok (.irem, 1)) (hy : y ≠ 0) (hv : x % y = z) (hp : pc + 1 = pc') (r : Run p e below F T (mkF m pc' ls (.int z :: st))) : Run p e below F T (mkF m pc ls (.int y :: .int x :: st)) := by
  obtain ⟨⟨hx, hby, hml, hZ, hown, hnm, hret, hlk⟩, hs0, eT, locs, S, N⟩ := X
  subst hp
  exact Run.of (fun t q => iremM S hx rfl (hb hby hd) rfl hy (by rw [hv]; exact q)) r
theorem r_idiv (X : Here p l e R s m args below meth c Z own nm bs ml rt n0 T h k n) {x y z : Int32} (hd : decode bs pc = .ok (.idiv, 1)) (hy : y ≠ 0) (hv : x / y = z) (hp : pc + 1 = pc') (r : Run p e below F T (mkF m pc' ls (.int z :: st))) : Run p e below F T (mkF m pc ls (.int y :: .int x :: st)) := by
  obtain ⟨⟨hx, hby, hml, hZ, hown, hnm, hret, hlk⟩, hs0, eT, locs, S, N⟩ := X
  subst hp
  exact Run.of (fun t q => XS.idiv S.here hx rfl (hb hby hd) rfl hy (by rw [hv]; exact q)) r
theorem r_ladd (X : Here p l e R s m args below meth c Z own nm bs ml rt n0 T h k n) {x y z : Int64} (hd : decode bs pc = .ok (.ladd, 1)) (hv : x + y = z) (hp : pc + 1 = pc') (r : Run p e below F T (mkF m pc' ls (.long z :: st))) : Run p e below F T (mkF m pc ls (.long y :: .long x :: st)) := by
  obtain ⟨⟨hx, hby, hml, hZ, hown, hnm, hret, hlk⟩, hs0, eT, locs, S, N⟩ := X
  subst hp
  exact Run.of (fun t q => XT.ladd S.here hx rfl (hb hby hd) rfl (by rw [hv]; exact q)) r
theorem r_lsub (X : Here p l e R s m args below meth c Z own nm bs ml rt n0 T h k n) {x y z : Int64} (hd : decode bs pc = .ok (.lsub, 1)) (hv : x - y = z) (hp : pc + 1 = pc') (r : Run p e below F T (mkF m pc' ls (.long z :: st))) : Run p e below F T (mkF m pc ls (.long y :: .long x :: st)) := by
  obtain ⟨⟨hx, hby, hml, hZ, hown, hnm, hret, hlk⟩, hs0, eT, locs, S, N⟩ := X
  subst hp
  exact Run.of (fun t q => XT.lsub S.here hx rfl (hb hby hd) rfl (by rw [hv]; exact q)) r
theorem r_lmul (X : Here p l e R s m args below meth c Z own nm bs ml rt n0 T h k n) {x y z : Int64} (hd : decode bs pc = .ok (.lmul, 1)) (hv : x * y = z) (hp : pc + 1 = pc') (r : Run p e below F T (mkF m pc' ls (.long z :: st))) : Run p e below F T (mkF m pc ls (.long y :: .long x :: st)) := by
  obtain ⟨⟨hx, hby, hml, hZ, hown, hnm, hret, hlk⟩, hs0, eT, locs, S, N⟩ := X
  subst hp
  exact Run.of (fun t q => XT.lmul S.here hx rfl (hb hby hd) rfl (by rw [hv]; exact q)) r
theorem r_land (X : Here p l e R s m args below meth c Z own nm bs ml rt n0 T h k n) {x y z : Int64} (hd : decode bs pc = .ok (.land, 1)) (hv : x &&& y = z) (hp : pc + 1 = pc') (r : Run p e below F T (mkF m pc' ls (.long z :: st))) : Run p e below F T (mkF m pc ls (.long y :: .long x :: st)) := by
  obtain ⟨⟨hx, hby, hml, hZ, hown, hnm, hret, hlk⟩, hs0, eT, locs, S, N⟩ := X
  subst hp
  exact Run.of (fun t q => XT.land S.here hx rfl (hb hby hd) rfl (by rw [hv]; exact q)) r
theorem r_lor (X : Here p l e R s m args below meth c Z own nm bs ml rt n0 T h k n) {x y z : Int64} (hd : decode bs pc = .ok (.lor, 1)) (hv : x ||| y = z) (hp : pc + 1 = pc') (r : Run p e below F T (mkF m pc' ls (.long z :: st))) : Run p e below F T (mkF m pc ls (.long y :: .long x :: st)) := by
  obtain ⟨⟨hx, hby, hml, hZ, hown, hnm, hret, hlk⟩, hs0, eT, locs, S, N⟩ := X
  subst hp
  exact Run.of (fun t q => XT.lor S.here hx rfl (hb hby hd) rfl (by rw [hv]; exact q)) r
theorem r_lxor (X : Here p l e R s m args below meth c Z own nm bs ml rt n0 T h k n) {x y z : Int64} (hd : decode bs pc = .ok (.lxor, 1)) (hv : x ^^^ y = z) (hp : pc + 1 = pc') (r : Run p e below F T (mkF m pc' ls (.long z :: st))) : Run p e below F T (mkF m pc ls (.long y :: .long x :: st)) := by
  obtain ⟨⟨hx, hby, hml, hZ, hown, hnm, hret, hlk⟩, hs0, eT, locs, S, N⟩ := X
  subst hp
  exact Run.of (fun t q => XT.lxor S.here hx rfl (hb hby hd) rfl (by rw [hv]; exact q)) r
theorem r_ldiv (X : Here p l e R s m args below meth c Z own nm bs ml rt n0 T h k n) {x y z : Int64} (hd : decode bs pc = .ok (.ldiv, 1)) (hy : y ≠ 0) (hv : x / y = z) (hp : pc + 1 = pc') (r : Run p e below F T (mkF m pc' ls (.long z :: st))) : Run p e below F T (mkF m pc ls (.long y :: .long x :: st)) := by
  obtain ⟨⟨hx, hby, hml, hZ, hown, hnm, hret, hlk⟩, hs0, eT, locs, S, N⟩ := X
  subst hp
  exact Run.of (fun t q => XT.ldiv S.here hx rfl (hb hby hd) rfl hy (by rw [hv]; exact q)) r
theorem r_lrem (X : Here p l e R s m args below meth c Z own nm bs ml rt n0 T h k n) {x y z : Int64} (hd : decode bs pc = .ok (.lrem, 1)) (hy : y ≠ 0) (hv : x - (x / y) * y = z) (hp : pc + 1 = pc') (r : Run p e below F T (mkF m pc' ls (.long z :: st))) : Run p e below F T (mkF m pc ls (.long y :: .long x :: st)) := by
  obtain ⟨⟨hx, hby, hml, hZ, hown, hnm, hret, hlk⟩, hs0, eT, locs, S, N⟩ := X
  subst hp
  exact Run.of (fun t q => XT.lrem S.here hx rfl (hb hby hd) rfl hy (by rw [hv]; exact q)) r
theorem r_lshl (X : Here p l e R s m args below meth c Z own nm bs ml rt n0 T h k n) {x z : Int64} {y : Int32} (hd : decode bs pc = .ok (.lshl, 1)) (hv : x <<< (y.toInt64 &&& 63) = z) (hp : pc + 1 = pc') (r : Run p e below F T (mkF m pc' ls (.long z :: st))) : Run p e below F T (mkF m pc ls (.int y :: .long x :: st)) := by
  obtain ⟨⟨hx, hby, hml, hZ, hown, hnm, hret, hlk⟩, hs0, eT, locs, S, N⟩ := X
  subst hp
  exact Run.of (fun t q => XT.lshl S.here hx rfl (hb hby hd) rfl (by rw [hv]; exact q)) r
theorem r_lshr (X : Here p l e R s m args below meth c Z own nm bs ml rt n0 T h k n) {x z : Int64} {y : Int32} (hd : decode bs pc = .ok (.lshr, 1)) (hv : x >>> (y.toInt64 &&& 63) = z) (hp : pc + 1 = pc') (r : Run p e below F T (mkF m pc' ls (.long z :: st))) : Run p e below F T (mkF m pc ls (.int y :: .long x :: st)) := by
  obtain ⟨⟨hx, hby, hml, hZ, hown, hnm, hret, hlk⟩, hs0, eT, locs, S, N⟩ := X
  subst hp
  exact Run.of (fun t q => XT.lshr S.here hx rfl (hb hby hd) rfl (by rw [hv]; exact q)) r
theorem r_lushr (X : Here p l e R s m args below meth c Z own nm bs ml rt n0 T h k n) {x z : Int64} {y : Int32} (hd : decode bs pc = .ok (.lushr, 1)) (hv : XT.ushrL x y = z) (hp : pc + 1 = pc') (r : Run p e below F T (mkF m pc' ls (.long z :: st))) : Run p e below F T (mkF m pc ls (.int y :: .long x :: st)) := by
  obtain ⟨⟨hx, hby, hml, hZ, hown, hnm, hret, hlk⟩, hs0, eT, locs, S, N⟩ := X
  subst hp
  exact Run.of (fun t q => XT.lushr S.here hx rfl (hb hby hd) rfl (by rw [hv]; exact q)) r
theorem r_i2b (X : Here p l e R s m args below meth c Z own nm bs ml rt n0 T h k n) {x z : Int32} (hd : decode bs pc = .ok (.i2b, 1)) (hv : x.toInt8.toInt32 = z) (hp : pc + 1 = pc') (r : Run p e below F T (mkF m pc' ls (.int z :: st))) : Run p e below F T (mkF m pc ls (.int x :: st)) := by
  obtain ⟨⟨hx, hby, hml, hZ, hown, hnm, hret, hlk⟩, hs0, eT, locs, S, N⟩ := X
  subst hp
  exact Run.of (fun t q => XT.i2b S.here hx rfl (hb hby hd) rfl (by rw [hv]; exact q)) r
theorem r_i2c (X : Here p l e R s m args below meth c Z own nm bs ml rt n0 T h k n) {x z : Int32} (hd : decode bs pc = .ok (.i2c, 1)) (hv : x.toUInt32.toUInt16.toUInt32.toInt32 = z) (hp : pc + 1 = pc') (r : Run p e below F T (mkF m pc' ls (.int z :: st))) : Run p e below F T (mkF m pc ls (.int x :: st)) := by
  obtain ⟨⟨hx, hby, hml, hZ, hown, hnm, hret, hlk⟩, hs0, eT, locs, S, N⟩ := X
  subst hp
  exact Run.of (fun t q => XT.i2c S.here hx rfl (hb hby hd) rfl (by rw [hv]; exact q)) r
theorem r_i2s (X : Here p l e R s m args below meth c Z own nm bs ml rt n0 T h k n) {x z : Int32} (hd : decode bs pc = .ok (.i2s, 1)) (hv : x.toInt16.toInt32 = z) (hp : pc + 1 = pc') (r : Run p e below F T (mkF m pc' ls (.int z :: st))) : Run p e below F T (mkF m pc ls (.int x :: st)) := by
  obtain ⟨⟨hx, hby, hml, hZ, hown, hnm, hret, hlk⟩, hs0, eT, locs, S, N⟩ := X
  subst hp
  exact Run.of (fun t q => XT.i2s S.here hx rfl (hb hby hd) rfl (by rw [hv]; exact q)) r
theorem r_i2l (X : Here p l e R s m args below meth c Z own nm bs ml rt n0 T h k n) {x : Int32} {z : Int64} (hd : decode bs pc = .ok (.i2l, 1)) (hv : x.toInt64 = z) (hp : pc + 1 = pc') (r : Run p e below F T (mkF m pc' ls (.long z :: st))) : Run p e below F T (mkF m pc ls (.int x :: st)) := by
  obtain ⟨⟨hx, hby, hml, hZ, hown, hnm, hret, hlk⟩, hs0, eT, locs, S, N⟩ := X
  subst hp
  exact Run.of (fun t q => XT.i2l S.here hx rfl (hb hby hd) rfl (by rw [hv]; exact q)) r
theorem r_l2i (X : Here p l e R s m args below meth c Z own nm bs ml rt n0 T h k n) {x : Int64} {z : Int32} (hd : decode bs pc = .ok (.l2i, 1)) (hv : x.toInt32 = z) (hp : pc + 1 = pc') (r : Run p e below F T (mkF m pc' ls (.int z :: st))) : Run p e below F T (mkF m pc ls (.long x :: st)) := by
  obtain ⟨⟨hx, hby, hml, hZ, hown, hnm, hret, hlk⟩, hs0, eT, locs, S, N⟩ := X
  subst hp
  exact Run.of (fun t q => XT.l2i S.here hx rfl (hb hby hd) rfl (by rw [hv]; exact q)) r
theorem r_lcmp (X : Here p l e R s m args below meth c Z own nm bs ml rt n0 T h k n) {x y : Int64} {z : Int32} (hd : decode bs pc = .ok (.lcmp, 1)) (hv : XT.cmpL x y = z) (hp : pc + 1 = pc') (r : Run p e below F T (mkF m pc' ls (.int z :: st))) : Run p e below F T (mkF m pc ls (.long y :: .long x :: st)) := by
  obtain ⟨⟨hx, hby, hml, hZ, hown, hnm, hret, hlk⟩, hs0, eT, locs, S, N⟩ := X
  subst hp
  exact Run.of (fun t q => XT.lcmp S.here hx rfl (hb hby hd) rfl (by rw [hv]; exact q)) r
theorem r_dup (X : Here p l e R s m args below meth c Z own nm bs ml rt n0 T h k n) {x : Value} (hd : decode bs pc = .ok (.dup, 1)) (hc : x.category = 1) (hp : pc + 1 = pc') (r : Run p e below F T (mkF m pc' ls (x :: x :: st))) : Run p e below F T (mkF m pc ls (x :: st)) := by
  obtain ⟨⟨hx, hby, hml, hZ, hown, hnm, hret, hlk⟩, hs0, eT, locs, S, N⟩ := X
  subst hp
  exact Run.of (fun t q => XS.dup S.here hx rfl (hb hby hd) rfl hc q) r
theorem r_dupX1 (X : Here p l e R s m args below meth c Z own nm bs ml rt n0 T h k n) {x y : Value} (hd : decode bs pc = .ok (.dup_x1, 1)) (hc : x.category = 1) (hc' : y.category = 1) (hp : pc + 1 = pc') (r : Run p e below F T (mkF m pc' ls (x :: y :: x :: st))) : Run p e below F T (mkF m pc ls (x :: y :: st)) := by
  obtain ⟨⟨hx, hby, hml, hZ, hown, hnm, hret, hlk⟩, hs0, eT, locs, S, N⟩ := X
  subst hp
  exact Run.of (fun t q => XT.dupX1 S.here hx rfl (hb hby hd) rfl hc hc' q) r
theorem r_pop (X : Here p l e R s m args below meth c Z own nm bs ml rt n0 T h k n) {x : Value} (hd : decode bs pc = .ok (.pop, 1)) (hc : x.category = 1) (hp : pc + 1 = pc') (r : Run p e below F T (mkF m pc' ls st)) : Run p e below F T (mkF m pc ls (x :: st)) := by
  obtain ⟨⟨hx, hby, hml, hZ, hown, hnm, hret, hlk⟩, hs0, eT, locs, S, N⟩ := X
  subst hp
  exact Run.of (fun t q => XT.pop S.here hx rfl (hb hby hd) rfl hc q) r
theorem r_iinc (X : Here p l e R s m args below meth c Z own nm bs ml rt n0 T h k n) {i : Nat} {d : Int} {x z : Int32} (hd : decode bs pc = .ok (.iinc i d, 3)) (hl : ls[i]? = some (.val (.int x))) (hv : x + Int32.ofInt d = z) (hl' : storeLocals ls i (.int z) = some ls') (hp : pc + 3 = pc') (r : Run p e below F T (mkF m pc' ls' st)) : Run p e below F T (mkF m pc ls st) := by
  obtain ⟨⟨hx, hby, hml, hZ, hown, hnm, hret, hlk⟩, hs0, eT, locs, S, N⟩ := X
  subst hp
  exact Run.of (fun t q => XS.iinc S.here hx rfl (hb hby hd) hl (by rw [hv]; exact hl') q) r
theorem r_goto (X : Here p l e R s m args below meth c Z own nm bs ml rt n0 T h k n) {o : Int} (hd : decode bs pc = .ok (.goto o, 3)) (ho : 0 ≤ (pc : Int) + o) (hp : ((pc : Int) + o).toNat = pc') (r : Run p e below F T (mkF m pc' ls st)) : Run p e below F T (mkF m pc ls st) := by
  obtain ⟨⟨hx, hby, hml, hZ, hown, hnm, hret, hlk⟩, hs0, eT, locs, S, N⟩ := X
  exact Run.of (fun t q => XS.goto S.here hx rfl rfl (hb hby hd) ho hp q) r
theorem r_icmp (X : Here p l e R s m args below meth c Z own nm bs ml rt n0 T h k n) {cd : ClassFile.Cond} {o : Int} (hd : decode bs pc = .ok (.if_icmp cd o, 3)) (ho : 0 ≤ (pc : Int) + o) (hp : ((pc : Int) + o).toNat = pc') (hp2 : pc + 3 = pc2) {x y : Int32} {a b : Int} (ha : x.toInt = a) (hb' : y.toInt = b) (yes : cnd cd a b → Run p e below F T (mkF m pc' ls st)) (no : ¬ cnd cd a b → Run p e below F T (mkF m pc2 ls st)) : Run p e below F T (mkF m pc ls (.int y :: .int x :: st)) := by
  obtain ⟨⟨hx, hby, hml, hZ, hown, hnm, hret, hlk⟩, hs0, eT, locs, S, N⟩ := X
  subst ha hb' hp2
  by_cases w : cnd cd x.toInt (y : Int32).toInt
  · exact Run.of (fun t q => XS.icmpYes S.here hx rfl rfl (hb hby hd) rfl (((cnd_iff cd x y).mpr w)) ho hp q) (yes w)
  · exact Run.of (fun t q => XS.icmpNo S.here hx rfl (hb hby hd) rfl ((Bool.eq_false_iff.mpr fun z => w ((cnd_iff cd x y).mp z))) q) (no w)
theorem r_icmpY (X : Here p l e R s m args below meth c Z own nm bs ml rt n0 T h k n) {cd : ClassFile.Cond} {o : Int} (hd : decode bs pc = .ok (.if_icmp cd o, 3)) (ho : 0 ≤ (pc : Int) + o) (hp : ((pc : Int) + o).toNat = pc') {x y : Int32} {a b : Int} (ha : x.toInt = a) (hb' : y.toInt = b) (w : cnd cd a b) (r : Run p e below F T (mkF m pc' ls st)) : Run p e below F T (mkF m pc ls (.int y :: .int x :: st)) :=
  r_icmp X hd ho hp rfl ha hb' (fun _ => r) (fun z => absurd w z)
theorem r_icmpN (X : Here p l e R s m args below meth c Z own nm bs ml rt n0 T h k n) {cd : ClassFile.Cond} {o : Int} (hd : decode bs pc = .ok (.if_icmp cd o, 3)) (ho : 0 ≤ (pc : Int) + o) (hp2 : pc + 3 = pc2) {x y : Int32} {a b : Int} (ha : x.toInt = a) (hb' : y.toInt = b) (w : ¬ cnd cd a b) (r : Run p e below F T (mkF m pc2 ls st)) : Run p e below F T (mkF m pc ls (.int y :: .int x :: st)) :=
  r_icmp X hd ho rfl hp2 ha hb' (fun z => absurd z w) (fun _ => r)
theorem r_if (X : Here p l e R s m args below meth c Z own nm bs ml rt n0 T h k n) {cd : ClassFile.Cond} {o : Int} (hd : decode bs pc = .ok (.ifCond cd o, 3)) (ho : 0 ≤ (pc : Int) + o) (hp : ((pc : Int) + o).toNat = pc') (hp2 : pc + 3 = pc2) {x : Int32} {a b : Int} (ha : x.toInt = a) (hb' : (0 : Int32).toInt = b) (yes : cnd cd a b → Run p e below F T (mkF m pc' ls st)) (no : ¬ cnd cd a b → Run p e below F T (mkF m pc2 ls st)) : Run p e below F T (mkF m pc ls (.int x :: st)) := by
  obtain ⟨⟨hx, hby, hml, hZ, hown, hnm, hret, hlk⟩, hs0, eT, locs, S, N⟩ := X
  subst ha hb' hp2
  by_cases w : cnd cd x.toInt (0 : Int32).toInt
  · exact Run.of (fun t q => XS.ifYes S.here hx rfl rfl (hb hby hd) rfl ((if0 _ _).trans ((cnd_iff cd x 0).mpr w)) ho hp q) (yes w)
  · exact Run.of (fun t q => XS.ifNo S.here hx rfl (hb hby hd) rfl ((if0 _ _).trans (Bool.eq_false_iff.mpr fun z => w ((cnd_iff cd x 0).mp z))) q) (no w)
theorem r_ifY (X : Here p l e R s m args below meth c Z own nm bs ml rt n0 T h k n) {cd : ClassFile.Cond} {o : Int} (hd : decode bs pc = .ok (.ifCond cd o, 3)) (ho : 0 ≤ (pc : Int) + o) (hp : ((pc : Int) + o).toNat = pc') {x : Int32} {a b : Int} (ha : x.toInt = a) (hb' : (0 : Int32).toInt = b) (w : cnd cd a b) (r : Run p e below F T (mkF m pc' ls st)) : Run p e below F T (mkF m pc ls (.int x :: st)) :=
  r_if X hd ho hp rfl ha hb' (fun _ => r) (fun z => absurd w z)
theorem r_ifN (X : Here p l e R s m args below meth c Z own nm bs ml rt n0 T h k n) {cd : ClassFile.Cond} {o : Int} (hd : decode bs pc = .ok (.ifCond cd o, 3)) (ho : 0 ≤ (pc : Int) + o) (hp2 : pc + 3 = pc2) {x : Int32} {a b : Int} (ha : x.toInt = a) (hb' : (0 : Int32).toInt = b) (w : ¬ cnd cd a b) (r : Run p e below F T (mkF m pc2 ls st)) : Run p e below F T (mkF m pc ls (.int x :: st)) :=
  r_if X hd ho rfl hp2 ha hb' (fun z => absurd z w) (fun _ => r)
theorem r_acmpN (X : Here p l e R s m args below meth c Z own nm bs ml rt n0 T h k n) {cd : ACond} {o : Int} {x y : Addr} (hd : decode bs pc = .ok (.if_acmp cd o, 3)) (hc : XT.acmp cd (.ref x) (.ref y) = false) (hp : pc + 3 = pc') (r : Run p e below F T (mkF m pc' ls st)) : Run p e below F T (mkF m pc ls (.ref y :: .ref x :: st)) := by
  obtain ⟨⟨hx, hby, hml, hZ, hown, hnm, hret, hlk⟩, hs0, eT, locs, S, N⟩ := X
  subst hp
  exact Run.of (fun t q => XT.acmpNo S.here hx rfl (hb hby hd) rfl rfl rfl hc q) r
theorem r_retN {ft : FieldType} (X : Here p l e R s m args below meth c Z own nm bs ml (some ft) n0 T h k n) (ht : ft = .boolean ∨ ft = .byte ∨ ft = .char ∨ ft = .short) (hd : decode bs pc = .ok (.ireturn, 1)) {z w : Int32} (hz : nar ft z = w) (hQ : Q (some (.int w)) h) (hk : k ≤ kc) (hn : n ≤ ks) : Run p e below (Fnl s n0 kc ks Q) T (mkF m pc ls (.int z :: st)) := by
  obtain ⟨⟨hx, hby, hml, hZ, hown, hnm, hret, hlk⟩, hs0, eT, locs, S, N⟩ := X
  subst hz
  obtain ⟨fs, hr, hrun, hended, hW, hsame⟩ := S.leave (v := some (.int (nar ft z))) (fun w => by rw [hret] at w; cases w)
  refine ⟨_, _, ?_, hrun, hended, _, _, rfl, ⟨?_, ?_, N⟩, ⟨_, rfl⟩, hW, hsame.mono hk hn⟩
  · exact retN S hx hret ht (hb hby hd) hr
  · show Q _ T.heap
    rw [eT]; exact hQ
  · show n0 ≤ T.heap.size
    rw [eT]; exact hs0
theorem r_retI (X : Here p l e R s m args below meth c Z own nm bs ml (some .int) n0 T h k n) (hd : decode bs pc = .ok (.ireturn, 1)) {z : Int32} (hQ : Q (some (.int z)) h) (hk : k ≤ kc) (hn : n ≤ ks) : Run p e below (Fnl s n0 kc ks Q) T (mkF m pc ls (.int z :: st)) := by
  obtain ⟨⟨hx, hby, hml, hZ, hown, hnm, hret, hlk⟩, hs0, eT, locs, S, N⟩ := X
  obtain ⟨fs, hr, hrun, hended, hW, hsame⟩ := S.leave (v := some (.int z)) (fun w => by rw [hret] at w; cases w)
  refine ⟨_, _, ?_, hrun, hended, _, _, rfl, ⟨?_, ?_, N⟩, ⟨_, rfl⟩, hW, hsame.mono hk hn⟩
  · exact retOut S hx hret rfl (Or.inl ⟨rfl, Or.inl rfl, _, rfl⟩) (hb hby hd) hr
  · show Q _ T.heap
    rw [eT]; exact hQ
  · show n0 ≤ T.heap.size
    rw [eT]; exact hs0
theorem r_retL (X : Here p l e R s m args below meth c Z own nm bs ml (some .long) n0 T h k n) (hd : decode bs pc = .ok (.lreturn, 1)) {z : Int64} (hQ : Q (some (.long z)) h) (hk : k ≤ kc) (hn : n ≤ ks) : Run p e below (Fnl s n0 kc ks Q) T (mkF m pc ls (.long z :: st)) := by
  obtain ⟨⟨hx, hby, hml, hZ, hown, hnm, hret, hlk⟩, hs0, eT, locs, S, N⟩ := X
  obtain ⟨fs, hr, hrun, hended, hW, hsame⟩ := S.leave (v := some (.long z)) (fun w => by rw [hret] at w; cases w)
  refine ⟨_, _, ?_, hrun, hended, _, _, rfl, ⟨?_, ?_, N⟩, ⟨_, rfl⟩, hW, hsame.mono hk hn⟩
  · exact retOut S hx hret rfl (Or.inr (Or.inl ⟨rfl, rfl, _, rfl⟩)) (hb hby hd) hr
  · show Q _ T.heap
    rw [eT]; exact hQ
  · show n0 ≤ T.heap.size
    rw [eT]; exact hs0
theorem r_retA {ft : FieldType} (X : Here p l e R s m args below meth c Z own nm bs ml (some ft) n0 T h k n) (ht : ft.isReference = true) (hd : decode bs pc = .ok (.areturn, 1)) {a : Addr} (hQ : Q (some (.ref a)) h) (hk : k ≤ kc) (hn : n ≤ ks) : Run p e below (Fnl s n0 kc ks Q) T (mkF m pc ls (.ref a :: st)) := by
  obtain ⟨⟨hx, hby, hml, hZ, hown, hnm, hret, hlk⟩, hs0, eT, locs, S, N⟩ := X
  obtain ⟨fs, hr, hrun, hended, hW, hsame⟩ := S.leave (v := some (.ref a)) (fun w => by rw [hret] at w; cases w)
  refine ⟨_, _, ?_, hrun, hended, _, _, rfl, ⟨?_, ?_, N⟩, ⟨_, rfl⟩, hW, hsame.mono hk hn⟩
  · exact retOut S hx hret (by cases ft <;> first | rfl | (exfalso; revert ht; decide)) (Or.inr (Or.inr (Or.inr (Or.inr ⟨rfl, ht, rfl⟩)))) (hb hby hd) hr
  · show Q _ T.heap
    rw [eT]; exact hQ
  · show n0 ≤ T.heap.size
    rw [eT]; exact hs0
theorem r_ret (X : Here p l e R s m args below meth c Z own nm bs ml none n0 T h k n) (hd : decode bs pc = .ok (.return_, 1)) (hQ : Q none h) (hk : k ≤ kc) (hn : n ≤ ks) : Run p e below (Fnl s n0 kc ks Q) T (mkF m pc ls []) := by
  obtain ⟨⟨hx, hby, hml, hZ, hown, hnm, hret, hlk⟩, hs0, eT, locs, S, N⟩ := X
  obtain ⟨fs, hr, hrun, hended, hW, hsame⟩ := S.leave (v := none) (fun _ => rfl)
  refine ⟨_, _, ?_, hrun, hended, _, _, rfl, ⟨?_, ?_, N⟩, ⟨_, rfl⟩, hW, hsame.mono hk hn⟩
  · exact S.returnOut hx hret (hb hby hd) hr
  · show Q _ T.heap
    rw [eT]; exact hQ
  · show n0 ≤ T.heap.size
    rw [eT]; exact hs0
/-- the array at a has N components of kind ty; the j-th holds the int f j -/
def Arf (Z : State) (h : Heap) (a : Addr) (ty : FieldType) (N : Nat) (f : Nat → Int32) : Prop := ∃ cl : Cell, Arr Z h a cl ty ∧ cl.slots.size = N ∧ ∀ j, j < N → cl.slots[j]? = some (.int (f j))
def upd (f : Nat → Int32) (i : Nat) (v : Int32) : Nat → Int32 := fun j => if j = i then v else f j
theorem upd_same (f : Nat → Int32) (i : Nat) (v : Int32) : upd f i v i = v := if_pos rfl
theorem upd_ne (f : Nat → Int32) {i j : Nat} (v : Int32) (q : j ≠ i) : upd f i v j = f j := if_neg q
theorem Arf.lt {a : Addr} {ty : FieldType} {N : Nat} {f : Nat → Int32} (A : Arf Z h a ty N f) : a < h.size := by obtain ⟨_, A, -⟩ := A; exact A.lt
theorem Arf.ext {a : Addr} {ty : FieldType} {N : Nat} {f : Nat → Int32} {h' : Heap} (A : Arf Z h a ty N f) (E : Ext h h') : Arf Z h' a ty N f := by obtain ⟨cl, A, r⟩ := A; exact ⟨cl, A.ext E, r⟩
theorem Arf.other {a b : Addr} {ty : FieldType} {N sl : Nat} {f : Nat → Int32} {h' : Heap} {v : Value} (A : Arf Z h b ty N f) (W : Wr h h' a sl v) (q : b ≠ a) : Arf Z h' b ty N f := by obtain ⟨cl, A, r⟩ := A; exact ⟨cl, A.other W q, r⟩
theorem Arf.keep {a : Addr} {ty : FieldType} {N : Nat} {f : Nat → Int32} {h' : Heap} {ws : List Addr} (A : Arf Z h a ty N f) (K : Keep h h' ws) (q : a ∉ ws) : Arf Z h' a ty N f := by obtain ⟨cl, A, r⟩ := A; exact ⟨cl, ⟨K.2.1 a cl A.1 q, A.2⟩, r⟩
theorem Arf.cast {a : Addr} {ty : FieldType} {N : Nat} {f g : Nat → Int32} (A : Arf Z h a ty N f) (q : ∀ j, j < N → f j = g j) : Arf Z h a ty N g := by obtain ⟨cl, A, S, H⟩ := A; exact ⟨cl, A, S, fun j hj => by rw [H j hj, q j hj]⟩
theorem Arf.set {a : Addr} {ty : FieldType} {N i : Nat} {f : Nat → Int32} {h' : Heap} {v : Int32} (A : Arf Z h a ty N f) (W : Wr h h' a i (.int v)) : Arf Z h' a ty N (upd f i v) := by
  obtain ⟨cl, A, S, H⟩ := A
  refine ⟨_, A.same W, by rw [sz_set]; exact S, fun j hj => ?_⟩
  by_cases q : j = i
  · subst q; rw [upd_same]; simp [Cell.setSlot, S, hj]
  · rw [upd_ne f v q]; simp only [Cell.setSlot]; rw [Array.getElem?_setIfInBounds_ne (Ne.symm q)]; exact H j hj
theorem ix_clamp {j : Int32} {i : Nat} (hj : j.toInt = i) : j.toNatClampNeg = i := by simp [Int32.toNatClampNeg, hj]
theorem ix_in {j : Int32} {i N : Nat} (hj : j.toInt = i) (hi : i < N) {cl : Cell} (S : cl.slots.size = N) : ¬ (j < 0 ∨ cl.slots.size ≤ j.toNatClampNeg) := by
  rw [ix_clamp hj, S, Int32.lt_iff_toInt_lt, hj]
  have e0 : (0 : Int32).toInt = 0 := rfl
  omega
theorem r_baload (X : Here p l e R s m args below meth c Z own nm bs ml rt n0 T h k n) {a : Addr} {N i : Nat} {f : Nat → Int32} {j v : Int32} (hd : decode bs pc = .ok (.baload, 1)) (A : Arf Z h a .byte N f) (hj : j.toInt = i) (hi : i < N) (hv : f i = v) (hp : pc + 1 = pc') (r : Run p e below F T (mkF m pc' ls (.int v :: st))) : Run p e below F T (mkF m pc ls (.int j :: .ref a :: st)) := by
  obtain ⟨⟨hx, hby, hml, hZ, hown, hnm, hret, hlk⟩, hs0, eT, locs, S, N⟩ := X
  subst hp hv
  obtain ⟨cl, A, SZ, H⟩ := A
  exact Run.of (fun t q => S.baloadBytes hx (j := j) (by rw [eT]; exact A.1) (State.isArrayOf_alike hZ.alike A.2.1) A.2.2 (ix_in hj hi SZ) (by rw [ix_clamp hj]; exact H i hi) (g := mkF m pc ls (.int j :: .ref a :: st)) rfl rfl (hb hby hd) t q) r
theorem r_caload (X : Here p l e R s m args below meth c Z own nm bs ml rt n0 T h k n) {a : Addr} {N i : Nat} {f : Nat → Int32} {j v : Int32} (hd : decode bs pc = .ok (.caload, 1)) (A : Arf Z h a .char N f) (hj : j.toInt = i) (hi : i < N) (hv : f i = v) (hp : pc + 1 = pc') (r : Run p e below F T (mkF m pc' ls (.int v :: st))) : Run p e below F T (mkF m pc ls (.int j :: .ref a :: st)) := by
  obtain ⟨⟨hx, hby, hml, hZ, hown, hnm, hret, hlk⟩, hs0, eT, locs, S, N⟩ := X
  subst hp hv
  obtain ⟨cl, A, SZ, H⟩ := A
  exact Run.of (fun t q => S.caload hx (j := j) (by rw [eT]; exact A.1) (State.isArrayOf_alike hZ.alike A.2.1) A.2.2 (ix_in hj hi SZ) (by rw [ix_clamp hj]; exact H i hi) (g := mkF m pc ls (.int j :: .ref a :: st)) rfl rfl (hb hby hd) t q) r
theorem r_iaload (X : Here p l e R s m args below meth c Z own nm bs ml rt n0 T h k n) {a : Addr} {N i : Nat} {f : Nat → Int32} {j v : Int32} (hd : decode bs pc = .ok (.iaload, 1)) (A : Arf Z h a .int N f) (hj : j.toInt = i) (hi : i < N) (hv : f i = v) (hp : pc + 1 = pc') (r : Run p e below F T (mkF m pc' ls (.int v :: st))) : Run p e below F T (mkF m pc ls (.int j :: .ref a :: st)) := by
  obtain ⟨⟨hx, hby, hml, hZ, hown, hnm, hret, hlk⟩, hs0, eT, locs, S, N⟩ := X
  subst hp hv
  obtain ⟨cl, A, SZ, H⟩ := A
  exact Run.of (fun t q => S.iaload hx (j := j) (by rw [eT]; exact A.1) (State.isArrayOf_alike hZ.alike A.2.1) A.2.2 (ix_in hj hi SZ) (by rw [ix_clamp hj]; exact H i hi) (g := mkF m pc ls (.int j :: .ref a :: st)) rfl rfl (hb hby hd) t q) r
theorem r_arraylength (X : Here p l e R s m args below meth c Z own nm bs ml rt n0 T h k n) {a : Addr} {ty : FieldType} {N : Nat} {f : Nat → Int32} {v : Int32} (hd : decode bs pc = .ok (.arraylength, 1)) (A : Arf Z h a ty N f) (hv : N.toInt32 = v) (hp : pc + 1 = pc') (r : Run p e below F T (mkF m pc' ls (.int v :: st))) : Run p e below F T (mkF m pc ls (.ref a :: st)) := by
  obtain ⟨⟨hx, hby, hml, hZ, hown, hnm, hret, hlk⟩, hs0, eT, locs, S, N⟩ := X
  subst hp hv
  obtain ⟨cl, A, SZ, H⟩ := A
  subst SZ
  exact Run.of (fun t q => S.arraylength hx (cell := cl) (by rw [eT]; exact A.1) (State.isArrayOf_alike hZ.alike A.2.1) (g := mkF m pc ls (.ref a :: st)) rfl rfl (hb hby hd) t q) r
theorem r_bastore (X : Here p l e R s m args below meth c Z own nm bs ml rt n0 T h k n) {a : Addr} {N i : Nat} {f : Nat → Int32} {j x v : Int32} (hd : decode bs pc = .ok (.bastore, 1)) (A : Arf Z h a .byte N f) (hj : j.toInt = i) (hi : i < N) (ge : n0 ≤ a) (hv : nar .byte x = v) (hp : pc + 1 = pc') (r : ∀ T' h', Here p l e R s m args below meth c Z own nm bs ml rt n0 T' h' k n → Wr h h' a i (.int v) → Arf Z h' a .byte N (upd f i v) → Run p e below F T' (mkF m pc' ls st)) : Run p e below F T (mkF m pc ls (.int x :: .int j :: .ref a :: st)) := by
  obtain ⟨⟨hx, hby, hml, hZ, hown, hnm, hret, hlk⟩, hs0, eT, locs, S, N_⟩ := X
  subst hp hv
  obtain ⟨cl, A, SZ, H⟩ := A
  obtain ⟨T', h', X', e', W, st'⟩ := stB S hx hZ eT A (j := j) (x := x) (ix_in hj hi SZ) (g := mkF m pc ls (.int x :: .int j :: .ref a :: st)) rfl rfl (hb hby hd)
  rw [ix_clamp hj] at W
  refine Run.of (fun t q => st' t q) (r T' h' ⟨⟨hx, hby, hml, hZ, hown, hnm, hret, hlk⟩, ?_, e', _, X', Fr.snoc X' N_ ge⟩ W (Arf.set ⟨cl, A, SZ, H⟩ W))
  rw [W.size]; exact hs0
theorem r_castore (X : Here p l e R s m args below meth c Z own nm bs ml rt n0 T h k n) {a : Addr} {N i : Nat} {f : Nat → Int32} {j x v : Int32} (hd : decode bs pc = .ok (.castore, 1)) (A : Arf Z h a .char N f) (hj : j.toInt = i) (hi : i < N) (ge : n0 ≤ a) (hv : nar .char x = v) (hp : pc + 1 = pc') (r : ∀ T' h', Here p l e R s m args below meth c Z own nm bs ml rt n0 T' h' k n → Wr h h' a i (.int v) → Arf Z h' a .char N (upd f i v) → Run p e below F T' (mkF m pc' ls st)) : Run p e below F T (mkF m pc ls (.int x :: .int j :: .ref a :: st)) := by
  obtain ⟨⟨hx, hby, hml, hZ, hown, hnm, hret, hlk⟩, hs0, eT, locs, S, N_⟩ := X
  subst hp hv
  obtain ⟨cl, A, SZ, H⟩ := A
  obtain ⟨T', h', X', e', W, st'⟩ := stC S hx hZ eT A (j := j) (x := x) (ix_in hj hi SZ) (g := mkF m pc ls (.int x :: .int j :: .ref a :: st)) rfl rfl (hb hby hd)
  rw [ix_clamp hj] at W
  refine Run.of (fun t q => st' t q) (r T' h' ⟨⟨hx, hby, hml, hZ, hown, hnm, hret, hlk⟩, ?_, e', _, X', Fr.snoc X' N_ ge⟩ W (Arf.set ⟨cl, A, SZ, H⟩ W))
  rw [W.size]; exact hs0
theorem r_iastore (X : Here p l e R s m args below meth c Z own nm bs ml rt n0 T h k n) {a : Addr} {N i : Nat} {f : Nat → Int32} {j x v : Int32} (hd : decode bs pc = .ok (.iastore, 1)) (A : Arf Z h a .int N f) (hj : j.toInt = i) (hi : i < N) (ge : n0 ≤ a) (hv : x = v) (hp : pc + 1 = pc') (r : ∀ T' h', Here p l e R s m args below meth c Z own nm bs ml rt n0 T' h' k n → Wr h h' a i (.int v) → Arf Z h' a .int N (upd f i v) → Run p e below F T' (mkF m pc' ls st)) : Run p e below F T (mkF m pc ls (.int x :: .int j :: .ref a :: st)) := by
  obtain ⟨⟨hx, hby, hml, hZ, hown, hnm, hret, hlk⟩, hs0, eT, locs, S, N_⟩ := X
  subst hp hv
  obtain ⟨cl, A, SZ, H⟩ := A
  obtain ⟨T', h', X', e', W, st'⟩ := stI S hx hZ eT A (j := j) (x := x) (ix_in hj hi SZ) (g := mkF m pc ls (.int x :: .int j :: .ref a :: st)) rfl rfl (hb hby hd)
  rw [ix_clamp hj] at W
  refine Run.of (fun t q => st' t q) (r T' h' ⟨⟨hx, hby, hml, hZ, hown, hnm, hret, hlk⟩, ?_, e', _, X', Fr.snoc X' N_ ge⟩ W (Arf.set ⟨cl, A, SZ, H⟩ W))
  rw [W.size]; exact hs0
theorem r_newarray (X : Here p l e R s m args below meth c Z own nm bs ml rt n0 T h k n) {aty : ArrayType} {z : Int32} {N : Nat} (hd : decode bs pc = .ok (.newarray aty, 2)) (w : (Jvm.Cond.arrayClass (newarray.typeOf aty)).before a0 Z = true) (hz : z.toInt = N) (hdf : defaultValue (newarray.typeOf aty) = .int 0) (hb8 : N * 8 ≤ 536870912) (hc : k + 1 ≤ R.cells) (hl : n + N ≤ R.slots) (hp : pc + 2 = pc') (r : ∀ T' h' b, Here p l e R s m args below meth c Z own nm bs ml rt n0 T' h' (k + 1) (n + N) → b = h.size → n0 ≤ b → Ext h h' → Arf Z h' b (newarray.typeOf aty) N (fun _ => 0) → Run p e below F T' (mkF m pc' ls (.ref b :: st))) : Run p e below F T (mkF m pc ls (.int z :: st)) := by
  obtain ⟨⟨hx, hby, hml, hZ, hown, hnm, hret, hlk⟩, hs0, eT, locs, S, N_⟩ := X
  subst hp
  have hneg : ¬ z < 0 := by
    rw [Int32.lt_iff_toInt_lt, hz]
    have e0 : (0 : Int32).toInt = 0 := rfl
    omega
  obtain ⟨T', h', cA, X', e', E, A, st'⟩ := newP S hx hZ w eT (g := mkF m pc ls (.int z :: st)) rfl (hb hby hd) rfl hneg (cap := N) (Nat.le_of_eq (ix_clamp hz)) hb8 hc hl
  refine Run.of (fun t q => st' t q) (r T' h' h.size ⟨⟨hx, hby, hml, hZ, hown, hnm, hret, hlk⟩, Nat.le_trans hs0 E.1, e', _, X', N_⟩ rfl hs0 E ⟨_, A, (sz_new _ _ _).trans (ix_clamp hz), fun j hj => ?_⟩)
  simp [newA, ix_clamp hz, hj, hdf]
theorem r_new (X : Here p l e R s m args below meth c Z own nm bs ml rt n0 T h k n) {C : String} {i sz : Nat} (hd : decode bs pc = .ok (.new i, 3)) (w : (Jvm.Cond.classLink own i C).before a0 Z = true) (wi : (Jvm.Cond.instantiable C sz).before a0 Z = true) (wz : (Jvm.Cond.initialized C).before a0 Z = true) (hc : k + 1 ≤ R.cells) (hl : n + sz ≤ R.slots) (hp : pc + 3 = pc') (r : ∀ T' h' b, Here p l e R s m args below meth c Z own nm bs ml rt n0 T' h' (k + 1) (n + sz) → b = h.size → n0 ≤ b → Ext h h' → Exa Z h' b C → (∀ {O f d : String} {ty : FieldType}, Laid Z a0 C O f d → parseFieldDescriptor d = some ty → Fld Z h' b O f d (defaultValue ty)) → Run p e below F T' (mkF m pc' ls (.ref b :: st))) : Run p e below F T (mkF m pc ls st) := by
  obtain ⟨⟨hx, hby, hml, hZ, hown, hnm, hret, hlk⟩, hs0, eT, locs, S, N⟩ := X
  subst hp
  obtain ⟨T', h', X', e', E, A, D, -, st'⟩ := newO S hx hZ hown w wi wz eT (g := mkF m pc ls st) rfl (hb hby hd) hc hl
  exact Run.of (fun t q => st' t q) (r T' h' h.size ⟨⟨hx, hby, hml, hZ, hown, hnm, hret, hlk⟩, Nat.le_trans hs0 E.1, e', _, X', N⟩ rfl hs0 E A D)
theorem r_getfield (X : Here p l e R s m args below meth c Z own nm bs ml rt n0 T h k n) {R0 f d : String} {i : Nat} {a : Addr} {v : Value} (hd : decode bs pc = .ok (.getfield i, 3)) (w : (Jvm.Cond.fieldLink own i R0 f d).before a0 Z = true) (Ff : Fld Z h a R0 f d v) (hp : pc + 3 = pc') (r : ∀ T', Here p l e R s m args below meth c Z own nm bs ml rt n0 T' h k n → Run p e below F T' (mkF m pc' ls (v :: st))) : Run p e below F T (mkF m pc ls (.ref a :: st)) := by
  obtain ⟨⟨hx, hby, hml, hZ, hown, hnm, hret, hlk⟩, hs0, eT, locs, S, N⟩ := X
  subst hp
  obtain ⟨T', X', e', st'⟩ := getF S hx hZ hown (host := "") (Or.inl w) Via.refl eT Ff (g := mkF m pc ls (.ref a :: st)) rfl rfl (hb hby hd)
  exact Run.of (fun t q => st' t q) (r T' ⟨⟨hx, hby, hml, hZ, hown, hnm, hret, hlk⟩, hs0, e', _, X', N⟩)
theorem r_putfield (X : Here p l e R s m args below meth c Z own nm bs ml rt n0 T h k n) {R0 f d C : String} {i kk : Nat} {a : Addr} {v old : Value} {ty : FieldType} (hd : decode bs pc = .ok (.putfield i, 3)) (w : (Jvm.Cond.fieldLink own i R0 f d).before a0 Z = true) (Ff : Fld Z h a R0 f d old) (E : Exa Z h a C) (L : (Jvm.Cond.lays C R0 f d).before a0 Z = true ∨ ((Jvm.Cond.laysFinal C R0 f d).before a0 Z = true ∧ own = R0 ∧ nm = "<init>")) (wi : (Jvm.Cond.instantiable C kk).before a0 Z = true) (hty : parseFieldDescriptor d = some ty) (hn : narrow ty v = v) (hf : fits ty v = true) (ge : n0 ≤ a) (hp : pc + 3 = pc') (r : ∀ T' h', Here p l e R s m args below meth c Z own nm bs ml rt n0 T' h' k n → Wr h h' a (Jvm.RoadKit.slotOf Z R0 f d) v → Run p e below F T' (mkF m pc' ls st)) : Run p e below F T (mkF m pc ls (v :: .ref a :: st)) := by
  obtain ⟨⟨hx, hby, hml, hZ, hown, hnm, hret, hlk⟩, hs0, eT, locs, S, N⟩ := X
  subst hp
  obtain ⟨T', h', X', e', W, st'⟩ := putF S hx hZ hown (host := "") (Or.inl w) Via.refl eT Ff E (L.imp id fun q => ⟨q.1, q.2.1, hnm.trans q.2.2⟩) wi hty hn hf (g := mkF m pc ls (v :: .ref a :: st)) rfl rfl (hb hby hd)
  refine Run.of (fun t q => st' t q) (r T' h' ⟨⟨hx, hby, hml, hZ, hown, hnm, hret, hlk⟩, ?_, e', _, X', Fr.snoc X' N ge⟩ W)
  rw [W.size]; exact hs0
theorem r_initObject (X : Here p l e R s m args below meth c Z own nm bs ml rt n0 T h k n) {i : Nat} {a : Addr} (hd : decode bs pc = .ok (.invokespecial i, 3)) (w1 : (Jvm.Cond.methodLink own i Lib.objectInit).before a0 Z = true) (w2 : (Jvm.Cond.instanceMethod Lib.objectInit).before a0 Z = true) (w3 : (Jvm.Cond.code Lib.objectInit ⟨#[0xb1]⟩ 1 none).before a0 Z = true) (hsz : ls.size = ml) (hf : 1 ≤ R.frames) {W : Nat} (hW : (st.map fun v => v.category).sum = W) (hl : W + 12 ≤ R.locals) (hp : pc + 3 = pc') (r : ∀ T', Here p l e R s m args below meth c Z own nm bs ml rt n0 T' h k n → Run p e below F T' (mkF m pc' ls st)) : Run p e below F T (mkF m pc ls (.ref a :: st)) := by
  obtain ⟨⟨hx, hby, hml, hZ, hown, hnm, hret, hlk⟩, hs0, eT, locs, S, N⟩ := X
  subst hp
  obtain ⟨T', X', e', st'⟩ := initO S hx hZ hown w1 w2 w3 eT (g := mkF m pc ls (.ref a :: st)) rfl (by rw [hml]; exact hsz) rfl (hb hby hd) hf (W := W) (by show 2 * 0 + _ ≤ _; rw [hW]; omega) hl
  exact Run.of (fun t q => st' t q) (r T' ⟨⟨hx, hby, hml, hZ, hown, hnm, hret, hlk⟩, hs0, e', _, X', N⟩)
theorem r_callS (X : Here p l e R s m args below meth c Z own nm bs ml rt n0 T h k n) {y : MethodName} {i : Nat} {bs' : ByteArray} {ml' : Nat} {rt' : Option FieldType} {rm : Room} {Q' : Option Value → Heap → Prop} {ps : List FieldType} {rr : Option FieldType} {argsL rest : List Value} {W : Nat} (hd : decode bs pc = .ok (.invokestatic i, 3)) (C : Con l Z y bs' ml' rt' rm argsL.toArray h n0 rm.cells rm.slots Q') (w1 : (Jvm.Cond.methodLink own i y).before a0 Z = true) (w2 : (Jvm.Cond.static y).before a0 Z = true) (w3 : (Jvm.Cond.initialized y.cls).before a0 Z = true) (w4 : (Jvm.Cond.code y bs' ml' rt').before a0 Z = true) (hy : y.cls ≠ "java/lang/invoke/MethodHandle" ∧ y.cls ≠ "java/lang/invoke/VarHandle") (hst : st = argsL.reverse ++ rest) (hsz : ls.size = ml) (hpd : parseMethodDescriptor y.desc = some ⟨ps, rr⟩) (hlen : argsL.length = ps.length) (hW : (rest.map fun v => v.category).sum = W) (hf : rm.frames + 1 ≤ R.frames) (hl : W + (ml' + 11) + rm.locals ≤ R.locals) (hc : k + rm.cells ≤ R.cells) (hs : n + rm.slots ≤ R.slots) (hp : pc + 3 = pc') (r : ∀ v T' h', Here p l e R s m args below meth c Z own nm bs ml rt n0 T' h' (k + rm.cells) (n + rm.slots) → Q' v h' → Run p e below F T' (mkF m pc' ls (v.toList ++ rest))) : Run p e below F T (mkF m pc ls st) := by
  obtain ⟨⟨hx, hby, hml, hZ, hown, hnm, hret, hlk⟩, hs0, eT, locs, S, N⟩ := X
  subst hp hst
  obtain ⟨v, _, B, -, X', ⟨L, hQ, l1, l2, l3⟩, st'⟩ := Jvm.LawKit.callS S hx (y := y) hown (mvT hZ w1) (mvT hZ w2) (mvT hZ w3) (mvT hZ w4) hy (backOf (W := W) (Q := fun v hh L => Q' v hh ∧ n0 ≤ hh.size ∧ Fr n0 L) (C []) hZ w4 w3 hf hl) (g := mkF m pc ls (argsL.reverse ++ rest)) rfl (by rw [hml]; exact hsz) (argsL := argsL) (rest := rest) (lenOf hpd hlen) rfl (by show 2 * 0 + _ ≤ _; rw [hW]; omega) (hb hby hd) (fun _ _ => ⟨rfl, eT, hc, hs⟩)
  obtain ⟨hQ, hs1, hF⟩ := hQ
  have X'' : Here p l e R s m args below meth c Z own nm bs ml rt n0 B.U B.U.heap (k + rm.cells) (n + rm.slots) := ⟨⟨hx, hby, hml, hZ, hown, hnm, hret, hlk⟩, hs1, rfl, B.locs, by rw [l2, l3] at X'; exact X', by rw [l1]; exact Fr.app N hF⟩
  exact Run.of (fun t q => st' t q) (r v B.U B.U.heap X'' hQ)
theorem r_init (X : Here p l e R s m args below meth c Z own nm bs ml rt n0 T h k n) {y : MethodName} {i : Nat} {bs' : ByteArray} {ml' : Nat} {rm : Room} {Q' : Option Value → Heap → Prop} {ps : List FieldType} {rr : Option FieldType} {argsL rest : List Value} {W : Nat} {a : Addr} (hd : decode bs pc = .ok (.invokespecial i, 3)) (C : Con l Z y bs' ml' none rm (.ref a :: argsL).toArray h n0 rm.cells rm.slots Q') (hy1 : y.name = "<init>") (w1 : (Jvm.Cond.methodLink own i y).before a0 Z = true) (w2 : (Jvm.Cond.instanceMethod y).before a0 Z = true) (w3 : (Jvm.Cond.initialized y.cls).before a0 Z = true) (w4 : (Jvm.Cond.code y bs' ml' none).before a0 Z = true) (hy : y.cls ≠ "java/lang/invoke/MethodHandle" ∧ y.cls ≠ "java/lang/invoke/VarHandle") (hst : st = argsL.reverse ++ .ref a :: rest) (hsz : ls.size = ml) (hpd : parseMethodDescriptor y.desc = some ⟨ps, rr⟩) (hlen : argsL.length = ps.length) (hW : (rest.map fun v => v.category).sum = W) (hf : rm.frames + 1 ≤ R.frames) (hl : W + (ml' + 11) + rm.locals ≤ R.locals) (hc : k + rm.cells ≤ R.cells) (hs : n + rm.slots ≤ R.slots) (hp : pc + 3 = pc') (r : ∀ v T' h', Here p l e R s m args below meth c Z own nm bs ml rt n0 T' h' (k + rm.cells) (n + rm.slots) → Q' v h' → Run p e below F T' (mkF m pc' ls (v.toList ++ rest))) : Run p e below F T (mkF m pc ls st) := by
  obtain ⟨⟨hx, hby, hml, hZ, hown, hnm, hret, hlk⟩, hs0, eT, locs, S, N⟩ := X
  subst hp hst
  obtain ⟨v, _, B, -, X', ⟨L, hQ, l1, l2, l3⟩, st'⟩ := S.specialBack hx (y := y) hy1 hown (mvT hZ w1) (mvT hZ w2) (mvT hZ w4) hy (backOf (W := W) (Q := fun v hh L => Q' v hh ∧ n0 ≤ hh.size ∧ Fr n0 L) (C []) hZ w4 w3 hf hl) (g := mkF m pc ls (argsL.reverse ++ .ref a :: rest)) rfl (by rw [hml]; exact hsz) (Steps.refl _) (a := a) (argsL := argsL) (rest := rest) (lenOf hpd hlen) rfl (by show 2 * 0 + _ ≤ _; rw [hW]; omega) (hb hby hd) (fun _ _ => ⟨rfl, eT, hc, hs⟩)
  obtain ⟨hQ, hs1, hF⟩ := hQ
  have X'' : Here p l e R s m args below meth c Z own nm bs ml rt n0 B.U B.U.heap (k + rm.cells) (n + rm.slots) := ⟨⟨hx, hby, hml, hZ, hown, hnm, hret, hlk⟩, hs1, rfl, B.locs, by rw [l2, l3] at X'; exact X', by rw [l1]; exact Fr.app N hF⟩
  exact Run.of (fun t q => st'.trans q) (r v B.U B.U.heap X'' hQ)
theorem r_callV (X : Here p l e R s m args below meth c Z own nm bs ml rt n0 T h k n) {y : MethodName} {i : Nat} {bs' : ByteArray} {ml' : Nat} {rt' : Option FieldType} {rm : Room} {Q' : Option Value → Heap → Prop} {ps : List FieldType} {rr : Option FieldType} {argsL rest : List Value} {W : Nat} {C0 : String} {a : Addr} (hd : decode bs pc = .ok (.invokevirtual i, 3)) (C : Con l Z y bs' ml' rt' rm (.ref a :: argsL).toArray h n0 rm.cells rm.slots Q') (E : Exa Z h a C0) (w1 : (Jvm.Cond.methodLink own i y).before a0 Z = true) (w2 : (Jvm.Cond.declares y).before a0 Z = true) (w5 : (Jvm.Cond.selects C0 y y).before a0 Z = true) (w6 : (Jvm.Cond.instanceMethod y).before a0 Z = true) (w3 : (Jvm.Cond.initialized y.cls).before a0 Z = true) (w4 : (Jvm.Cond.code y bs' ml' rt').before a0 Z = true) (hy : y.cls ≠ "java/lang/invoke/MethodHandle" ∧ y.cls ≠ "java/lang/invoke/VarHandle") (hst : st = argsL.reverse ++ .ref a :: rest) (hsz : ls.size = ml) (hpd : parseMethodDescriptor y.desc = some ⟨ps, rr⟩) (hlen : argsL.length = ps.length) (hW : (rest.map fun v => v.category).sum = W) (hf : rm.frames + 1 ≤ R.frames) (hl : W + (ml' + 11) + rm.locals ≤ R.locals) (hc : k + rm.cells ≤ R.cells) (hs : n + rm.slots ≤ R.slots) (hp : pc + 3 = pc') (r : ∀ v T' h', Here p l e R s m args below meth c Z own nm bs ml rt n0 T' h' (k + rm.cells) (n + rm.slots) → Q' v h' → Run p e below F T' (mkF m pc' ls (v.toList ++ rest))) : Run p e below F T (mkF m pc ls st) := by
  obtain ⟨⟨hx, hby, hml, hZ, hown, hnm, hret, hlk⟩, hs0, eT, locs, S, N⟩ := X
  subst hp hst
  obtain ⟨cq, kq, qa, qb, qc⟩ := isOf hZ eT E
  obtain ⟨v, _, B, -, X', ⟨L, hQ, l1, l2, l3⟩, st'⟩ := S.virtualBack hx (y := y) (z := y) hown (mvT hZ w1) (mvT hZ w2) (notFace_of_selects (args := #[]) (mvT hZ w5)) (mvT hZ w5) (mvT hZ w6) hy (backOf (W := W) (Q := fun v hh L => Q' v hh ∧ n0 ≤ hh.size ∧ Fr n0 L) (C []) hZ w4 w3 hf hl) qa qc (g := mkF m pc ls (argsL.reverse ++ .ref a :: rest)) rfl (by rw [hml]; exact hsz) (Steps.refl _) (argsL := argsL) (rest := rest) (lenOf hpd hlen) rfl (by show 2 * 0 + _ ≤ _; rw [hW]; omega) (hb hby hd) (fun _ _ => ⟨rfl, eT, hc, hs⟩)
  obtain ⟨hQ, hs1, hF⟩ := hQ
  have X'' : Here p l e R s m args below meth c Z own nm bs ml rt n0 B.U B.U.heap (k + rm.cells) (n + rm.slots) := ⟨⟨hx, hby, hml, hZ, hown, hnm, hret, hlk⟩, hs1, rfl, B.locs, by rw [l2, l3] at X'; exact X', by rw [l1]; exact Fr.app N hF⟩
  exact Run.of (fun t q => st'.trans q) (r v B.U B.U.heap X'' hQ)
end Own
/-- an int by its bits' number -/
theorem n_bits (x : Int32) : x.toInt = ((x.toBitVec.toNat : Int) + 2147483648) % 4294967296 - 2147483648 := by
  have e : x.toInt = x.toBitVec.toInt := rfl
  have hb := x.toBitVec.isLt
  rw [e, BitVec.toInt_eq_toNat_cond]
  split <;> omega
theorem n_i2b (x : Int32) : (x.toInt8.toInt32).toInt = (x.toInt + 128) % 256 - 128 := by
  rw [Int8.toInt_toInt32, Int32.toInt_toInt8, Int.bmod_def]; omega
theorem n_i2c (x : Int32) : (x.toUInt32.toUInt16.toUInt32.toInt32).toInt = x.toInt % 65536 := by
  have h : (x.toUInt32.toUInt16.toUInt32.toInt32).toBitVec.toNat = x.toBitVec.toNat % 65536 := by
    show ((x.toBitVec.setWidth 16).setWidth 32).toNat = _
    rw [BitVec.toNat_setWidth, BitVec.toNat_setWidth]; omega
  have h1 := n_bits (x.toUInt32.toUInt16.toUInt32.toInt32)
  have h2 := n_bits x
  have h3 := x.toBitVec.isLt
  omega
theorem n_narC (x : Int32) : nar .char x.toUInt32.toUInt16.toUInt32.toInt32 = x.toUInt32.toUInt16.toUInt32.toInt32 := by
  apply Int32.toInt_inj.mp
  show (Int32.toUInt32 _).toUInt16.toUInt32.toInt32.toInt = _
  rw [n_i2c, n_i2c]; omega
theorem n_narB (x : Int32) : nar .byte x.toInt8.toInt32 = x.toInt8.toInt32 := by
  apply Int32.toInt_inj.mp
  show (Int32.toInt8 _).toInt32.toInt = _
  rw [n_i2b, n_i2b]; omega
theorem n_add {x y : Int32} {a b : Int} (hx : x.toInt = a) (hy : y.toInt = b) (h1 : -2147483648 ≤ a + b) (h2 : a + b ≤ 2147483647) : (x + y).toInt = a + b := by
  subst hx hy; exact Jvm.Kit.i32_add (by omega) (by omega)
theorem n_sub {x y : Int32} {a b : Int} (hx : x.toInt = a) (hy : y.toInt = b) (h1 : -2147483648 ≤ a - b) (h2 : a - b ≤ 2147483647) : (x - y).toInt = a - b := by
  subst hx hy; exact Jvm.Kit.i32_sub (by omega) (by omega)
theorem n_nat {x : Int32} {n : Nat} (h : x.toInt = n) : x = Int32.ofNat n := by
  have a := x.toInt_lt
  exact Int32.toInt_inj.mp (by rw [h, Int32.toInt_ofNat_of_lt (by omega)])
theorem n_max (x : Int32) : 0 ≤ (x &&& (2147483647 : Int32)).toInt := by
  have : (x &&& (2147483647 : Int32)).toInt = x.toInt % 2 ^ 31 := Jvm.Kit.i32_mask x 2147483647 (k := 31) (by decide) (by decide)
  omega
theorem n_bitsL (x : Int64) : x.toInt = ((x.toBitVec.toNat : Int) + 9223372036854775808) % 18446744073709551616 - 9223372036854775808 := by
  have e : x.toInt = x.toBitVec.toInt := rfl
  have hb := x.toBitVec.isLt
  rw [e, BitVec.toInt_eq_toNat_cond]
  split <;> omega
theorem n_ushr (x y : Int32) (s : Nat) (hs : ((y &&& 31).toUInt32).toNat = s) (h1 : s < 32) : ((XT.ushr x y).toBitVec.toNat : Nat) = x.toBitVec.toNat / 2 ^ s := by
  show ((x.toUInt32 >>> (y &&& 31).toUInt32).toInt32).toBitVec.toNat = _
  simp only [UInt32.toBitVec_toInt32, UInt32.toBitVec_shiftRight, Int32.toBitVec_toUInt32]
  simp [BitVec.toNat_ushiftRight, Nat.shiftRight_eq_div_pow]
  have h2 : y.toBitVec.toNat &&& 31 = s := hs
  rw [h2, Nat.mod_eq_of_lt h1]
def own_b (x : Int32) : Int32 := x.toInt8.toInt32
theorem own_nb (x : Int32) : nar .byte (own_b x) = own_b x := n_narB x
theorem own_bi (x : Int32) : (own_b x).toInt = (x.toInt + 128) % 256 - 128 := n_i2b x
theorem own_l10 : (10 : Int64).toInt = 10 := rfl
theorem own_rem (r : Int64) (h : 0 ≤ r.toInt) : (r - (r / (10 : Int64)) * (10 : Int64)).toInt = r.toInt % 10 := by rw [Jvm.Kit.i64_rem_nonneg h]; rfl
theorem own_div (r : Int64) (h : 0 ≤ r.toInt) : (r / (10 : Int64)).toInt = r.toInt / 10 := by
  rw [Jvm.Kit.i64_div (by rw [own_l10]; omega), own_l10, Int.tdiv_eq_ediv_of_nonneg h]
theorem own_dig (r : Int64) (h : 0 ≤ r.toInt) : (own_b ((48 : Int64) + (r - (r / (10 : Int64)) * (10 : Int64))).toInt32).toInt = 48 + r.toInt % 10 := by
  have h1 := own_rem r h
  have h2 : ((48 : Int64) + (r - (r / (10 : Int64)) * (10 : Int64))).toInt = 48 + r.toInt % 10 := by
    rw [Jvm.Kit.i64_add (by rw [h1, show (48 : Int64).toInt = 48 from rfl]; omega) (by rw [h1, show (48 : Int64).toInt = 48 from rfl]; omega), h1]; rfl
  rw [own_bi, Jvm.Kit.i32_of_i64 (by rw [h2]; omega) (by rw [h2]; omega), h2]; omega
/-- what the digits' array holds -/
def own_D (V : Nat) (at_ : Nat) (f g : Nat → Int32) (d : Nat) : Prop := (∀ j, at_ + d ≤ j → j ≤ at_ + 10 → (g j).toInt = 48 + ((V / 10 ^ (at_ + 10 - j) % 10 : Nat) : Int)) ∧ ∀ j, (j < at_ + d ∨ at_ + 10 < j) → g j = f j
theorem own_D_step {V a d : Nat} {f g : Nat → Int32} (H : own_D V a f g (d + 1)) (hd : d ≤ 10) {x : Int32} (hx : x.toInt = 48 + ((V / 10 ^ (10 - d) % 10 : Nat) : Int)) : own_D V a f (upd g (a + d) x) d := by
  refine ⟨fun j h1 h2 => ?_, fun j h1 => ?_⟩
  · by_cases e : j = a + d
    · subst e; rw [upd_same, hx, show a + 10 - (a + d) = 10 - d by omega]
    · rw [upd_ne _ _ e]; exact H.1 j (by omega) h2
  · rw [upd_ne _ _ (by omega)]; exact H.2 j (by omega)
theorem own_p (V k : Nat) : V / 10 ^ k / 10 = V / 10 ^ (k + 1) := by rw [Nat.div_div_eq_div_mul, Nat.pow_succ]
theorem pn_com_example_volkskern_volkskern_register_IdentificationNumber : plainName "com/example/volkskern/volkskern/register/IdentificationNumber" = true := by first | (simp [plainName, overriddenIn]; done) | decide +kernel
theorem d_writeDigits_9 : decode prog_61_method_5_code 9 = .ok (.iload 6, 2) := by decide +kernel
theorem d_writeDigits_11 : decode prog_61_method_5_code 11 = .ok (.iload_n 3, 1) := by decide +kernel
theorem d_writeDigits_12 : decode prog_61_method_5_code 12 = .ok (.if_icmp .lt 33, 3) := by decide +kernel
theorem d_writeDigits_45 : decode prog_61_method_5_code 45 = .ok (.return_, 1) := by decide +kernel
theorem d_writeDigits_15 : decode prog_61_method_5_code 15 = .ok (.aload_n 2, 1) := by decide +kernel
theorem d_writeDigits_16 : decode prog_61_method_5_code 16 = .ok (.iload 6, 2) := by decide +kernel
theorem d_writeDigits_18 : decode prog_61_method_5_code 18 = .ok (.ldc2_w 69, 3) := by decide +kernel
theorem d_writeDigits_21 : decode prog_61_method_5_code 21 = .ok (.lload 4, 2) := by decide +kernel
theorem d_writeDigits_23 : decode prog_61_method_5_code 23 = .ok (.ldc2_w 71, 3) := by decide +kernel
theorem d_writeDigits_26 : decode prog_61_method_5_code 26 = .ok (.lrem, 1) := by decide +kernel
theorem d_writeDigits_27 : decode prog_61_method_5_code 27 = .ok (.ladd, 1) := by decide +kernel
theorem d_writeDigits_28 : decode prog_61_method_5_code 28 = .ok (.l2i, 1) := by decide +kernel
theorem d_writeDigits_29 : decode prog_61_method_5_code 29 = .ok (.i2b, 1) := by decide +kernel
theorem d_writeDigits_30 : decode prog_61_method_5_code 30 = .ok (.bastore, 1) := by decide +kernel
theorem d_writeDigits_31 : decode prog_61_method_5_code 31 = .ok (.lload 4, 2) := by decide +kernel
theorem d_writeDigits_33 : decode prog_61_method_5_code 33 = .ok (.ldc2_w 71, 3) := by decide +kernel
theorem d_writeDigits_36 : decode prog_61_method_5_code 36 = .ok (.ldiv, 1) := by decide +kernel
theorem d_writeDigits_37 : decode prog_61_method_5_code 37 = .ok (.lstore 4, 2) := by decide +kernel
theorem d_writeDigits_39 : decode prog_61_method_5_code 39 = .ok (.iinc 6 (-1), 3) := by decide +kernel
theorem d_writeDigits_42 : decode prog_61_method_5_code 42 = .ok (.goto (-33), 3) := by decide +kernel
theorem d_writeDigits_0 : decode prog_61_method_5_code 0 = .ok (.lload_n 0, 1) := by decide +kernel
theorem d_writeDigits_1 : decode prog_61_method_5_code 1 = .ok (.lstore 4, 2) := by decide +kernel
theorem d_writeDigits_3 : decode prog_61_method_5_code 3 = .ok (.iload_n 3, 1) := by decide +kernel
theorem d_writeDigits_4 : decode prog_61_method_5_code 4 = .ok (.bipush 10, 2) := by decide +kernel
theorem d_writeDigits_6 : decode prog_61_method_5_code 6 = .ok (.iadd, 1) := by decide +kernel
theorem d_writeDigits_7 : decode prog_61_method_5_code 7 = .ok (.istore 6, 2) := by decide +kernel
theorem pn_com_example_volkskern_volkskern_register_IdentificationNumberWriteDigitsPinLaw : plainName "com/example/volkskern/volkskern/register/IdentificationNumberWriteDigitsPinLaw" = true := by first | (simp [plainName, overriddenIn]; done) | decide +kernel
theorem d_cell_0 : decode method_3_code 0 = .ok (.iload_n 1, 1) := by decide +kernel
theorem d_cell_1 : decode method_3_code 1 = .ok (.iload_n 2, 1) := by decide +kernel
theorem d_cell_2 : decode method_3_code 2 = .ok (.if_icmp .lt 11, 3) := by decide +kernel
theorem d_cell_13 : decode method_3_code 13 = .ok (.aload_n 0, 1) := by decide +kernel
theorem d_cell_14 : decode method_3_code 14 = .ok (.iload_n 1, 1) := by decide +kernel
theorem d_cell_15 : decode method_3_code 15 = .ok (.baload, 1) := by decide +kernel
theorem d_cell_16 : decode method_3_code 16 = .ok (.bipush 85, 2) := by decide +kernel
theorem d_cell_18 : decode method_3_code 18 = .ok (.if_icmp .ne 7, 3) := by decide +kernel
theorem d_cell_25 : decode method_3_code 25 = .ok (.iconst 0, 1) := by decide +kernel
theorem d_cell_26 : decode method_3_code 26 = .ok (.ireturn, 1) := by decide +kernel
theorem d_cell_21 : decode method_3_code 21 = .ok (.iconst 1, 1) := by decide +kernel
theorem d_cell_22 : decode method_3_code 22 = .ok (.goto 4, 3) := by decide +kernel
theorem d_cell_5 : decode method_3_code 5 = .ok (.iload_n 1, 1) := by decide +kernel
theorem d_cell_6 : decode method_3_code 6 = .ok (.iload_n 2, 1) := by decide +kernel
theorem d_cell_7 : decode method_3_code 7 = .ok (.bipush 10, 2) := by decide +kernel
theorem d_cell_9 : decode method_3_code 9 = .ok (.iadd, 1) := by decide +kernel
theorem d_cell_10 : decode method_3_code 10 = .ok (.if_icmp .le 17, 3) := by decide +kernel
theorem d_cell_27 : decode method_3_code 27 = .ok (.aload_n 0, 1) := by decide +kernel
theorem d_cell_28 : decode method_3_code 28 = .ok (.iload_n 1, 1) := by decide +kernel
theorem d_cell_29 : decode method_3_code 29 = .ok (.baload, 1) := by decide +kernel
theorem d_cell_30 : decode method_3_code 30 = .ok (.bipush 48, 2) := by decide +kernel
theorem d_cell_32 : decode method_3_code 32 = .ok (.if_icmp .lt 15, 3) := by decide +kernel
theorem d_cell_47 : decode method_3_code 47 = .ok (.iconst 0, 1) := by decide +kernel
theorem d_cell_48 : decode method_3_code 48 = .ok (.ireturn, 1) := by decide +kernel
theorem d_cell_35 : decode method_3_code 35 = .ok (.aload_n 0, 1) := by decide +kernel
theorem d_cell_36 : decode method_3_code 36 = .ok (.iload_n 1, 1) := by decide +kernel
theorem d_cell_37 : decode method_3_code 37 = .ok (.baload, 1) := by decide +kernel
theorem d_cell_38 : decode method_3_code 38 = .ok (.bipush 57, 2) := by decide +kernel
theorem d_cell_40 : decode method_3_code 40 = .ok (.if_icmp .gt 7, 3) := by decide +kernel
theorem d_cell_43 : decode method_3_code 43 = .ok (.iconst 1, 1) := by decide +kernel
theorem d_cell_44 : decode method_3_code 44 = .ok (.goto 4, 3) := by decide +kernel
theorem d_digit_0 : decode method_4_code 0 = .ok (.aload_n 0, 1) := by decide +kernel
theorem d_digit_1 : decode method_4_code 1 = .ok (.iload_n 1, 1) := by decide +kernel
theorem d_digit_2 : decode method_4_code 2 = .ok (.baload, 1) := by decide +kernel
theorem d_digit_3 : decode method_4_code 3 = .ok (.bipush 48, 2) := by decide +kernel
theorem d_digit_5 : decode method_4_code 5 = .ok (.isub, 1) := by decide +kernel
theorem d_digit_6 : decode method_4_code 6 = .ok (.i2l, 1) := by decide +kernel
theorem d_digit_7 : decode method_4_code 7 = .ok (.lreturn, 1) := by decide +kernel
theorem pd_writeDigits : parseMethodDescriptor "(J[BI)V" = some ⟨[.long, .array (.byte), .int], none⟩ := by decide +kernel
theorem pd_cell : parseMethodDescriptor "([BII)Z" = some ⟨[.array (.byte), .int, .int], (some .boolean)⟩ := by decide +kernel
theorem pd_digit : parseMethodDescriptor "([BI)J" = some ⟨[.array (.byte), .int], (some .long)⟩ := by decide +kernel
set_option maxRecDepth 65536 in
set_option maxHeartbeats 40000000 in
theorem con_w (l : Launch) (Z : State) (a0 : Array Value) (hw : ∀ d ∈ tables_1, d.before a0 Z = true) (q0 : Int64) (t1 : Addr) (q1 : Int32) (f : Nat → Int32) (V i : Nat) (h0 : Heap) (n0 : Nat) (Z0 : n0 ≤ h0.size) (A0 : Arf Z h0 t1 .byte 16 f) (g1 : n0 ≤ t1) (hV : q0.toInt = V) (hq1 : q1.toInt = i) (hi : i ≤ 5) : Con l Z (⟨"com/example/volkskern/volkskern/register/IdentificationNumber", "writeDigits", "(J[BI)V"⟩ : MethodName) prog_61_method_5_code 7 none ({ frames := 0, cells := 0, slots := 0, locals := 0 } : Room) #[(.long q0), (.ref t1), (.int q1)] h0 n0 0 0 (fun v h => v = none ∧ ∃ g, Arf Z h t1 .byte 16 g ∧ own_D V i f g 0) := by
  refine Con.of_body (ls := #[.val (.long q0), .second, .val (.ref t1), .val (.int q1), .unset, .unset, .unset]) pn_com_example_volkskern_volkskern_register_IdentificationNumber (fun m => by first | (simp [entryFrame, mkF, argsToLocals, Value.category]; done) | rfl) Z0 (fun p e s m below meth c T (X : Here p l e ({ frames := 0, cells := 0, slots := 0, locals := 0 } : Room) s m #[(.long q0), (.ref t1), (.int q1)] below meth c Z "com/example/volkskern/volkskern/register/IdentificationNumber" "writeDigits" prog_61_method_5_code 7 none n0 T h0 0 0) => ?_)
  have LL : ∀ (d : Nat) (z : Int32) (r : Int64) (T : State) (h : Heap) (g : Nat → Int32), d ≤ 11 → z.toInt = (i : Int) + d - 1 → r.toInt = ((V / 10 ^ (11 - d) : Nat) : Int) → Here p l e ({ frames := 0, cells := 0, slots := 0, locals := 0 } : Room) s m #[(.long q0), (.ref t1), (.int q1)] below meth c Z "com/example/volkskern/volkskern/register/IdentificationNumber" "writeDigits" prog_61_method_5_code 7 none n0 T h 0 0 → Arf Z h t1 .byte 16 g → own_D V i f g d → Run p e below (Fnl s n0 0 0 (fun v h => v = none ∧ ∃ g, Arf Z h t1 .byte 16 g ∧ own_D V i f g 0)) T (mkF m 9 #[.val (.long q0), .second, .val (.ref t1), .val (.int q1), .val (.long r), .second, .val (.int z)] []) := by
    intro d
    induction d with
    | zero =>
      intro z r T h g hd hz hr X A D
      refine r_iload X (pc' := 11) d_writeDigits_9 rfl rfl ?_
      refine r_iloadN X (pc' := 12) d_writeDigits_11 rfl rfl ?_
      refine r_icmpY X (pc' := 45) d_writeDigits_12 (by decide) (by decide) (a := z.toInt) (b := q1.toInt) rfl rfl (show z.toInt < q1.toInt from (by omega)) ?_
      exact r_ret X d_writeDigits_45 ⟨rfl, g, A, D⟩ (by decide) (by decide)
    | succ d ih =>
      intro z r T h g hd hz hr X A D
      refine r_iload X (pc' := 11) d_writeDigits_9 rfl rfl ?_
      refine r_iloadN X (pc' := 12) d_writeDigits_11 rfl rfl ?_
      refine r_icmpN X (pc2 := 15) d_writeDigits_12 (by decide) rfl (a := z.toInt) (b := q1.toInt) rfl rfl (show ¬ (z.toInt < q1.toInt) from (by omega)) ?_
      have hr0 : 0 ≤ r.toInt := by rw [hr]; exact Int.natCast_nonneg _
      refine r_aloadN X (pc' := 16) d_writeDigits_15 rfl rfl ?_
      refine r_iload X (pc' := 18) d_writeDigits_16 rfl rfl ?_
      refine r_ldc2J X (pc' := 21) (v := (48 : Int64)) d_writeDigits_18 (wd hw 8 rfl) rfl ?_
      refine r_lload X (pc' := 23) d_writeDigits_21 rfl rfl ?_
      refine r_ldc2J X (pc' := 26) (v := (10 : Int64)) d_writeDigits_23 (wd hw 9 rfl) rfl ?_
      refine r_lrem X (pc' := 27) (z := (r - (r / (10 : Int64)) * (10 : Int64))) d_writeDigits_26 (by decide) rfl rfl ?_
      refine r_ladd X (pc' := 28) (z := ((48 : Int64) + (r - (r / (10 : Int64)) * (10 : Int64)))) d_writeDigits_27 rfl rfl ?_
      refine r_l2i X (pc' := 29) (z := (((48 : Int64) + (r - (r / (10 : Int64)) * (10 : Int64))).toInt32)) d_writeDigits_28 rfl rfl ?_
      refine r_i2b X (pc' := 30) (z := (own_b ((48 : Int64) + (r - (r / (10 : Int64)) * (10 : Int64))).toInt32)) d_writeDigits_29 rfl rfl ?_
      have kd := own_dig r hr0
      rw [hr, show 11 - (d + 1) = 10 - d by omega] at kd
      refine r_bastore X (pc' := 31) (i := (i + d)) (v := (own_b ((48 : Int64) + (r - (r / (10 : Int64)) * (10 : Int64))).toInt32)) d_writeDigits_30 A (by omega) (by omega) g1 (own_nb _) rfl (fun T1 h2 X3 W4 A5 => ?_)
      have kr : (r / (10 : Int64)).toInt = ((V / 10 ^ (11 - d) : Nat) : Int) := by
        have e1 := own_p V (11 - (d + 1))
        rw [show 11 - (d + 1) + 1 = 11 - d by omega] at e1
        rw [own_div r hr0, hr, ← e1]; omega
      obtain ⟨z2, hz2⟩ : ∃ y, z + (-1 : Int32) = y := ⟨_, rfl⟩
      have kz2 : z2.toInt = (i : Int) + d - 1 := by rw [← hz2, n_add hz (show (-1 : Int32).toInt = -1 from rfl) (by omega) (by omega)]; omega
      refine r_lload X3 (pc' := 33) d_writeDigits_31 rfl rfl ?_
      refine r_ldc2J X3 (pc' := 36) (v := (10 : Int64)) d_writeDigits_33 (wd hw 9 rfl) rfl ?_
      refine r_ldiv X3 (pc' := 37) (z := (r / (10 : Int64))) d_writeDigits_36 (by decide) rfl rfl ?_
      refine r_lstore X3 (pc' := 39) (ls' := #[.val (.long q0), .second, .val (.ref t1), .val (.int q1), .val (.long (r / (10 : Int64))), .second, .val (.int z)]) d_writeDigits_37 rfl rfl ?_
      refine r_iinc X3 (pc' := 42) (z := z2) (ls' := #[.val (.long q0), .second, .val (.ref t1), .val (.int q1), .val (.long (r / (10 : Int64))), .second, .val (.int z2)]) d_writeDigits_39 rfl hz2 rfl rfl ?_
      refine r_goto X3 (pc' := 9) d_writeDigits_42 (by decide) (by decide) ?_
      exact ih z2 (r / (10 : Int64)) _ _ _ (by omega) kz2 kr X3 A5 (own_D_step D (by omega) (by rw [kd]; norm_cast))
  obtain ⟨z0, hz0⟩ : ∃ y, q1 + (10 : Int32) = y := ⟨_, rfl⟩
  have kz0 : z0.toInt = (i : Int) + (11 : Nat) - 1 := by rw [← hz0, n_add hq1 (show (10 : Int32).toInt = 10 from rfl) (by omega) (by omega)]; omega
  refine r_lloadN X (pc' := 1) d_writeDigits_0 rfl rfl ?_
  refine r_lstore X (pc' := 3) (ls' := #[.val (.long q0), .second, .val (.ref t1), .val (.int q1), .val (.long q0), .second, .unset]) d_writeDigits_1 rfl rfl ?_
  refine r_iloadN X (pc' := 4) d_writeDigits_3 rfl rfl ?_
  refine r_bipush X (pc' := 6) (v := (10 : Int32)) d_writeDigits_4 rfl rfl ?_
  refine r_iadd X (pc' := 7) (z := z0) d_writeDigits_6 hz0 rfl ?_
  refine r_istore X (pc' := 9) (ls' := #[.val (.long q0), .second, .val (.ref t1), .val (.int q1), .val (.long q0), .second, .val (.int z0)]) d_writeDigits_7 rfl rfl ?_
  exact LL 11 z0 q0 T h0 f (Nat.le_refl _) kz0 (by rw [hV]; simp) X A0 ⟨fun j h1 h2 => by omega, fun j h1 => rfl⟩
set_option maxRecDepth 65536 in
set_option maxHeartbeats 40000000 in
theorem con_c (l : Launch) (Z : State) (a0 : Array Value) (hw : ∀ d ∈ tables_1, d.before a0 Z = true) (t1 : Addr) (q1 q2 : Int32) (f : Nat → Int32) (n i : Nat) (h0 : Heap) (n0 : Nat) (Z0 : n0 ≤ h0.size) (A0 : Arf Z h0 t1 .byte 16 f) (hq1 : q1.toInt = n) (hn : n < 16) (hq2 : q2.toInt = i) (hi : i ≤ 5) (H1 : (n < i ∨ i + 10 < n) → (f n).toInt = 85) (H2 : i ≤ n → n ≤ i + 10 → 48 ≤ (f n).toInt ∧ (f n).toInt ≤ 57) : Con l Z (⟨"com/example/volkskern/volkskern/register/IdentificationNumberWriteDigitsPinLaw", "cell", "([BII)Z"⟩ : MethodName) method_3_code 3 (some .boolean) ({ frames := 0, cells := 0, slots := 0, locals := 0 } : Room) #[(.ref t1), (.int q1), (.int q2)] h0 n0 0 0 (fun v h => v = some (.int 1) ∧ h0 = h) := by
  refine Con.of_body (ls := #[.val (.ref t1), .val (.int q1), .val (.int q2)]) pn_com_example_volkskern_volkskern_register_IdentificationNumberWriteDigitsPinLaw (fun m => by first | (simp [entryFrame, mkF, argsToLocals, Value.category]; done) | rfl) Z0 (fun p e s m below meth c T (X : Here p l e ({ frames := 0, cells := 0, slots := 0, locals := 0 } : Room) s m #[(.ref t1), (.int q1), (.int q2)] below meth c Z "com/example/volkskern/volkskern/register/IdentificationNumberWriteDigitsPinLaw" "cell" method_3_code 3 (some .boolean) n0 T h0 0 0) => ?_)
  obtain ⟨z, hz⟩ : ∃ y, q2 + (10 : Int32) = y := ⟨_, rfl⟩
  have kz : z.toInt = i + 10 := by rw [← hz]; exact n_add hq2 rfl (by omega) (by omega)
  refine r_iloadN X (pc' := 1) d_cell_0 rfl rfl ?_
  refine r_iloadN X (pc' := 2) d_cell_1 rfl rfl ?_
  refine r_icmp X (pc' := 13) (pc2 := 5) d_cell_2 (by decide) (by decide) rfl (a := q1.toInt) (b := q2.toInt) rfl rfl (fun (cq6 : q1.toInt < q2.toInt) => ?_) (fun (cq6 : ¬ (q1.toInt < q2.toInt)) => ?_)
  · refine r_aloadN X (pc' := 14) d_cell_13 rfl rfl ?_
    refine r_iloadN X (pc' := 15) d_cell_14 rfl rfl ?_
    refine r_baload X (pc' := 16) (i := n) (v := (f n)) d_cell_15 A0 hq1 hn rfl rfl ?_
    refine r_bipush X (pc' := 18) (v := (85 : Int32)) d_cell_16 rfl rfl ?_
    refine r_icmp X (pc' := 25) (pc2 := 21) d_cell_18 (by decide) (by decide) rfl (a := (f n).toInt) (b := 85) rfl rfl (fun (cq7 : ¬ (f n).toInt = 85) => ?_) (fun (cq7 : ¬ (¬ (f n).toInt = 85)) => ?_)
    · refine r_iconst X (pc' := 26) (v := (0 : Int32)) d_cell_25 rfl rfl ?_
      exfalso; omega
    · refine r_iconst X (pc' := 22) (v := (1 : Int32)) d_cell_21 rfl rfl ?_
      refine r_goto X (pc' := 26) d_cell_22 (by decide) (by decide) ?_
      exact r_retN X (by simp) d_cell_26 (z := (1 : Int32)) (w := (1 : Int32)) rfl ⟨rfl, rfl⟩ (by decide) (by decide)
  · refine r_iloadN X (pc' := 6) d_cell_5 rfl rfl ?_
    refine r_iloadN X (pc' := 7) d_cell_6 rfl rfl ?_
    refine r_bipush X (pc' := 9) (v := (10 : Int32)) d_cell_7 rfl rfl ?_
    refine r_iadd X (pc' := 10) (z := z) d_cell_9 hz rfl ?_
    refine r_icmp X (pc' := 27) (pc2 := 13) d_cell_10 (by decide) (by decide) rfl (a := q1.toInt) (b := z.toInt) rfl rfl (fun (cq8 : q1.toInt ≤ z.toInt) => ?_) (fun (cq8 : ¬ (q1.toInt ≤ z.toInt)) => ?_)
    · refine r_aloadN X (pc' := 28) d_cell_27 rfl rfl ?_
      refine r_iloadN X (pc' := 29) d_cell_28 rfl rfl ?_
      refine r_baload X (pc' := 30) (i := n) (v := (f n)) d_cell_29 A0 hq1 hn rfl rfl ?_
      refine r_bipush X (pc' := 32) (v := (48 : Int32)) d_cell_30 rfl rfl ?_
      refine r_icmp X (pc' := 47) (pc2 := 35) d_cell_32 (by decide) (by decide) rfl (a := (f n).toInt) (b := 48) rfl rfl (fun (cq9 : (f n).toInt < 48) => ?_) (fun (cq9 : ¬ ((f n).toInt < 48)) => ?_)
      · refine r_iconst X (pc' := 48) (v := (0 : Int32)) d_cell_47 rfl rfl ?_
        exfalso; omega
      · refine r_aloadN X (pc' := 36) d_cell_35 rfl rfl ?_
        refine r_iloadN X (pc' := 37) d_cell_36 rfl rfl ?_
        refine r_baload X (pc' := 38) (i := n) (v := (f n)) d_cell_37 A0 hq1 hn rfl rfl ?_
        refine r_bipush X (pc' := 40) (v := (57 : Int32)) d_cell_38 rfl rfl ?_
        refine r_icmp X (pc' := 47) (pc2 := 43) d_cell_40 (by decide) (by decide) rfl (a := (f n).toInt) (b := 57) rfl rfl (fun (cq10 : 57 < (f n).toInt) => ?_) (fun (cq10 : ¬ (57 < (f n).toInt)) => ?_)
        · refine r_iconst X (pc' := 48) (v := (0 : Int32)) d_cell_47 rfl rfl ?_
          exfalso; omega
        · refine r_iconst X (pc' := 44) (v := (1 : Int32)) d_cell_43 rfl rfl ?_
          refine r_goto X (pc' := 48) d_cell_44 (by decide) (by decide) ?_
          exact r_retN X (by simp) d_cell_48 (z := (1 : Int32)) (w := (1 : Int32)) rfl ⟨rfl, rfl⟩ (by decide) (by decide)
    · refine r_aloadN X (pc' := 14) d_cell_13 rfl rfl ?_
      refine r_iloadN X (pc' := 15) d_cell_14 rfl rfl ?_
      refine r_baload X (pc' := 16) (i := n) (v := (f n)) d_cell_15 A0 hq1 hn rfl rfl ?_
      refine r_bipush X (pc' := 18) (v := (85 : Int32)) d_cell_16 rfl rfl ?_
      refine r_icmp X (pc' := 25) (pc2 := 21) d_cell_18 (by decide) (by decide) rfl (a := (f n).toInt) (b := 85) rfl rfl (fun (cq11 : ¬ (f n).toInt = 85) => ?_) (fun (cq11 : ¬ (¬ (f n).toInt = 85)) => ?_)
      · refine r_iconst X (pc' := 26) (v := (0 : Int32)) d_cell_25 rfl rfl ?_
        exfalso; omega
      · refine r_iconst X (pc' := 22) (v := (1 : Int32)) d_cell_21 rfl rfl ?_
        refine r_goto X (pc' := 26) d_cell_22 (by decide) (by decide) ?_
        exact r_retN X (by simp) d_cell_26 (z := (1 : Int32)) (w := (1 : Int32)) rfl ⟨rfl, rfl⟩ (by decide) (by decide)
set_option maxRecDepth 65536 in
set_option maxHeartbeats 40000000 in
theorem con_d (l : Launch) (Z : State) (a0 : Array Value) (hw : ∀ d ∈ tables_1, d.before a0 Z = true) (t1 : Addr) (q1 : Int32) (f : Nat → Int32) (n : Nat) (h0 : Heap) (n0 : Nat) (Z0 : n0 ≤ h0.size) (A0 : Arf Z h0 t1 .byte 16 f) (hq1 : q1.toInt = n) (hn : n < 16) (H2 : 48 ≤ (f n).toInt ∧ (f n).toInt ≤ 57) : Con l Z (⟨"com/example/volkskern/volkskern/register/IdentificationNumberWriteDigitsPinLaw", "digit", "([BI)J"⟩ : MethodName) method_4_code 2 (some .long) ({ frames := 0, cells := 0, slots := 0, locals := 0 } : Room) #[(.ref t1), (.int q1)] h0 n0 0 0 (fun v h => (∃ z : Int64, v = some (.long z) ∧ z.toInt = (f n).toInt - 48) ∧ h0 = h) := by
  refine Con.of_body (ls := #[.val (.ref t1), .val (.int q1)]) pn_com_example_volkskern_volkskern_register_IdentificationNumberWriteDigitsPinLaw (fun m => by first | (simp [entryFrame, mkF, argsToLocals, Value.category]; done) | rfl) Z0 (fun p e s m below meth c T (X : Here p l e ({ frames := 0, cells := 0, slots := 0, locals := 0 } : Room) s m #[(.ref t1), (.int q1)] below meth c Z "com/example/volkskern/volkskern/register/IdentificationNumberWriteDigitsPinLaw" "digit" method_4_code 2 (some .long) n0 T h0 0 0) => ?_)
  obtain ⟨y, hy⟩ : ∃ y, f n - (48 : Int32) = y := ⟨_, rfl⟩
  have ky : y.toInt = (f n).toInt - 48 := by rw [← hy]; exact n_sub rfl rfl (by omega) (by omega)
  refine r_aloadN X (pc' := 1) d_digit_0 rfl rfl ?_
  refine r_iloadN X (pc' := 2) d_digit_1 rfl rfl ?_
  refine r_baload X (pc' := 3) (i := n) (v := (f n)) d_digit_2 A0 hq1 hn rfl rfl ?_
  refine r_bipush X (pc' := 5) (v := (48 : Int32)) d_digit_3 rfl rfl ?_
  refine r_isub X (pc' := 6) (z := y) d_digit_5 hy rfl ?_
  refine r_i2l X (pc' := 7) (z := (y.toInt64)) d_digit_6 rfl rfl ?_
  exact r_retL X d_digit_7 ⟨⟨_, rfl, by rw [Jvm.Kit.i64_of_i32]; exact ky⟩, rfl⟩ (by decide) (by decide)
set_option maxRecDepth 65536 in
set_option maxHeartbeats 40000000 in
theorem con_law (l : Launch) (Z : State) (a0 : Array Value) (hw : ∀ d ∈ tables_1, d.before a0 Z = true) (p1 : Int64) (p2 : Int32) (h0 : Heap) (n0 : Nat) (Z0 : n0 ≤ h0.size)  : Con l Z x code maxLocals ret room_1 #[(.long p1), (.int p2)] h0 n0 16 128 (fun v _ => v = some (.int 1)) := by
  refine Con.of_body (ls := #[.val (.long p1), .second, .val (.int p2), .unset, .unset, .unset, .unset, .unset, .unset, .unset]) pn_com_example_volkskern_volkskern_register_IdentificationNumberWriteDigitsPinLaw (fun m => by first | (simp [entryFrame, mkF, argsToLocals, Value.category, maxLocals]; done) | rfl) Z0 (fun p e s m below meth c T (X : Here p l e room_1 s m #[(.long p1), (.int p2)] below meth c Z "com/example/volkskern/volkskern/register/IdentificationNumberWriteDigitsPinLaw" "law" code 10 (some .boolean) n0 T h0 0 0) => ?_)
  have km : (p1 &&& (9223372036854775807 : Int64)).toInt = p1.toInt % 2 ^ 63 := Jvm.Kit.i64_mask p1 9223372036854775807 (k := 63) (by decide) (by decide)
  obtain ⟨vv, hvv⟩ : ∃ z, ((p1 &&& (9223372036854775807 : Int64)) - ((p1 &&& (9223372036854775807 : Int64)) / (100000000000 : Int64)) * (100000000000 : Int64)) = z := ⟨_, rfl⟩
  have kv : vv.toInt = (p1 &&& (9223372036854775807 : Int64)).toInt % 100000000000 := by rw [← hvv, Jvm.Kit.i64_rem_nonneg (by omega)]; rfl
  obtain ⟨V, hV⟩ : ∃ n : Nat, vv.toInt = n := ⟨vv.toInt.toNat, by omega⟩
  have hVb : V < 100000000000 := by omega
  obtain ⟨oo, hoo⟩ : ∃ z, (p2 &&& (2147483647 : Int32)) % (6 : Int32) = z := ⟨_, rfl⟩
  have ko : oo.toInt = (p2 &&& (2147483647 : Int32)).toInt % 6 := by rw [← hoo, Jvm.Kit.i32_rem_nonneg (n_max p2)]; rfl
  obtain ⟨i, hi⟩ : ∃ n : Nat, oo.toInt = n := ⟨oo.toInt.toNat, by omega⟩
  have hi5 : i ≤ 5 := by omega
  refine r_lloadN X (pc' := 1) at_0 rfl rfl ?_
  refine r_ldc2J X (pc' := 4) (v := (9223372036854775807 : Int64)) at_1 (wd hw 0 rfl) rfl ?_
  refine r_land X (pc' := 5) (z := (p1 &&& (9223372036854775807 : Int64))) at_4 rfl rfl ?_
  refine r_ldc2J X (pc' := 8) (v := (100000000000 : Int64)) at_5 (wd hw 1 rfl) rfl ?_
  refine r_lrem X (pc' := 9) (z := vv) at_8 (by decide) hvv rfl ?_
  refine r_lstoreN X (pc' := 10) (ls' := #[.val (.long p1), .second, .val (.int p2), .val (.long vv), .second, .unset, .unset, .unset, .unset, .unset]) at_9 rfl rfl ?_
  refine r_iloadN X (pc' := 11) at_10 rfl rfl ?_
  refine r_ldcI X (pc' := 13) (v := (2147483647 : Int32)) at_11 (wd hw 2 rfl) rfl ?_
  refine r_iand X (pc' := 14) (z := (p2 &&& (2147483647 : Int32))) at_13 rfl rfl ?_
  refine r_bipush X (pc' := 16) (v := (6 : Int32)) at_14 rfl rfl ?_
  refine r_irem X (pc' := 17) (z := oo) at_16 (by decide) hoo rfl ?_
  refine r_istore X (pc' := 19) (ls' := #[.val (.long p1), .second, .val (.int p2), .val (.long vv), .second, .val (.int oo), .unset, .unset, .unset, .unset]) at_17 rfl rfl ?_
  refine r_bipush X (pc' := 21) (v := (16 : Int32)) at_19 rfl rfl ?_
  refine r_newarray X (pc' := 23) (N := 16) at_21 (wd hw 3 rfl) rfl rfl (by decide) (by decide) (by decide) rfl (fun T12 h13 b14 X15 ebb14 geb14 E16 A17 => ?_)
  refine r_astore X15 (pc' := 25) (ls' := #[.val (.long p1), .second, .val (.int p2), .val (.long vv), .second, .val (.int oo), .val (.ref b14), .unset, .unset, .unset]) at_23 rfl rfl ?_
  refine r_aload X15 (pc' := 27) at_25 rfl rfl ?_
  refine r_iconst X15 (pc' := 28) (v := (0 : Int32)) at_27 rfl rfl ?_
  refine r_bipush X15 (pc' := 30) (v := (85 : Int32)) at_28 rfl rfl ?_
  refine r_bastore X15 (pc' := 31) (i := 0) (v := (85 : Int32)) at_30 A17 rfl (by decide) geb14 rfl rfl (fun T18 h19 X20 W21 A22 => ?_)
  refine r_aload X20 (pc' := 33) at_31 rfl rfl ?_
  refine r_iconst X20 (pc' := 34) (v := (1 : Int32)) at_33 rfl rfl ?_
  refine r_bipush X20 (pc' := 36) (v := (85 : Int32)) at_34 rfl rfl ?_
  refine r_bastore X20 (pc' := 37) (i := 1) (v := (85 : Int32)) at_36 A22 rfl (by decide) geb14 rfl rfl (fun T23 h24 X25 W26 A27 => ?_)
  refine r_aload X25 (pc' := 39) at_37 rfl rfl ?_
  refine r_iconst X25 (pc' := 40) (v := (2 : Int32)) at_39 rfl rfl ?_
  refine r_bipush X25 (pc' := 42) (v := (85 : Int32)) at_40 rfl rfl ?_
  refine r_bastore X25 (pc' := 43) (i := 2) (v := (85 : Int32)) at_42 A27 rfl (by decide) geb14 rfl rfl (fun T28 h29 X30 W31 A32 => ?_)
  refine r_aload X30 (pc' := 45) at_43 rfl rfl ?_
  refine r_iconst X30 (pc' := 46) (v := (3 : Int32)) at_45 rfl rfl ?_
  refine r_bipush X30 (pc' := 48) (v := (85 : Int32)) at_46 rfl rfl ?_
  refine r_bastore X30 (pc' := 49) (i := 3) (v := (85 : Int32)) at_48 A32 rfl (by decide) geb14 rfl rfl (fun T33 h34 X35 W36 A37 => ?_)
  refine r_aload X35 (pc' := 51) at_49 rfl rfl ?_
  refine r_iconst X35 (pc' := 52) (v := (4 : Int32)) at_51 rfl rfl ?_
  refine r_bipush X35 (pc' := 54) (v := (85 : Int32)) at_52 rfl rfl ?_
  refine r_bastore X35 (pc' := 55) (i := 4) (v := (85 : Int32)) at_54 A37 rfl (by decide) geb14 rfl rfl (fun T38 h39 X40 W41 A42 => ?_)
  refine r_aload X40 (pc' := 57) at_55 rfl rfl ?_
  refine r_iconst X40 (pc' := 58) (v := (5 : Int32)) at_57 rfl rfl ?_
  refine r_bipush X40 (pc' := 60) (v := (85 : Int32)) at_58 rfl rfl ?_
  refine r_bastore X40 (pc' := 61) (i := 5) (v := (85 : Int32)) at_60 A42 rfl (by decide) geb14 rfl rfl (fun T43 h44 X45 W46 A47 => ?_)
  refine r_aload X45 (pc' := 63) at_61 rfl rfl ?_
  refine r_bipush X45 (pc' := 65) (v := (6 : Int32)) at_63 rfl rfl ?_
  refine r_bipush X45 (pc' := 67) (v := (85 : Int32)) at_65 rfl rfl ?_
  refine r_bastore X45 (pc' := 68) (i := 6) (v := (85 : Int32)) at_67 A47 rfl (by decide) geb14 rfl rfl (fun T48 h49 X50 W51 A52 => ?_)
  refine r_aload X50 (pc' := 70) at_68 rfl rfl ?_
  refine r_bipush X50 (pc' := 72) (v := (7 : Int32)) at_70 rfl rfl ?_
  refine r_bipush X50 (pc' := 74) (v := (85 : Int32)) at_72 rfl rfl ?_
  refine r_bastore X50 (pc' := 75) (i := 7) (v := (85 : Int32)) at_74 A52 rfl (by decide) geb14 rfl rfl (fun T53 h54 X55 W56 A57 => ?_)
  refine r_aload X55 (pc' := 77) at_75 rfl rfl ?_
  refine r_bipush X55 (pc' := 79) (v := (8 : Int32)) at_77 rfl rfl ?_
  refine r_bipush X55 (pc' := 81) (v := (85 : Int32)) at_79 rfl rfl ?_
  refine r_bastore X55 (pc' := 82) (i := 8) (v := (85 : Int32)) at_81 A57 rfl (by decide) geb14 rfl rfl (fun T58 h59 X60 W61 A62 => ?_)
  refine r_aload X60 (pc' := 84) at_82 rfl rfl ?_
  refine r_bipush X60 (pc' := 86) (v := (9 : Int32)) at_84 rfl rfl ?_
  refine r_bipush X60 (pc' := 88) (v := (85 : Int32)) at_86 rfl rfl ?_
  refine r_bastore X60 (pc' := 89) (i := 9) (v := (85 : Int32)) at_88 A62 rfl (by decide) geb14 rfl rfl (fun T63 h64 X65 W66 A67 => ?_)
  refine r_aload X65 (pc' := 91) at_89 rfl rfl ?_
  refine r_bipush X65 (pc' := 93) (v := (10 : Int32)) at_91 rfl rfl ?_
  refine r_bipush X65 (pc' := 95) (v := (85 : Int32)) at_93 rfl rfl ?_
  refine r_bastore X65 (pc' := 96) (i := 10) (v := (85 : Int32)) at_95 A67 rfl (by decide) geb14 rfl rfl (fun T68 h69 X70 W71 A72 => ?_)
  refine r_aload X70 (pc' := 98) at_96 rfl rfl ?_
  refine r_bipush X70 (pc' := 100) (v := (11 : Int32)) at_98 rfl rfl ?_
  refine r_bipush X70 (pc' := 102) (v := (85 : Int32)) at_100 rfl rfl ?_
  refine r_bastore X70 (pc' := 103) (i := 11) (v := (85 : Int32)) at_102 A72 rfl (by decide) geb14 rfl rfl (fun T73 h74 X75 W76 A77 => ?_)
  refine r_aload X75 (pc' := 105) at_103 rfl rfl ?_
  refine r_bipush X75 (pc' := 107) (v := (12 : Int32)) at_105 rfl rfl ?_
  refine r_bipush X75 (pc' := 109) (v := (85 : Int32)) at_107 rfl rfl ?_
  refine r_bastore X75 (pc' := 110) (i := 12) (v := (85 : Int32)) at_109 A77 rfl (by decide) geb14 rfl rfl (fun T78 h79 X80 W81 A82 => ?_)
  refine r_aload X80 (pc' := 112) at_110 rfl rfl ?_
  refine r_bipush X80 (pc' := 114) (v := (13 : Int32)) at_112 rfl rfl ?_
  refine r_bipush X80 (pc' := 116) (v := (85 : Int32)) at_114 rfl rfl ?_
  refine r_bastore X80 (pc' := 117) (i := 13) (v := (85 : Int32)) at_116 A82 rfl (by decide) geb14 rfl rfl (fun T83 h84 X85 W86 A87 => ?_)
  refine r_aload X85 (pc' := 119) at_117 rfl rfl ?_
  refine r_bipush X85 (pc' := 121) (v := (14 : Int32)) at_119 rfl rfl ?_
  refine r_bipush X85 (pc' := 123) (v := (85 : Int32)) at_121 rfl rfl ?_
  refine r_bastore X85 (pc' := 124) (i := 14) (v := (85 : Int32)) at_123 A87 rfl (by decide) geb14 rfl rfl (fun T88 h89 X90 W91 A92 => ?_)
  refine r_aload X90 (pc' := 126) at_124 rfl rfl ?_
  refine r_bipush X90 (pc' := 128) (v := (15 : Int32)) at_126 rfl rfl ?_
  refine r_bipush X90 (pc' := 130) (v := (85 : Int32)) at_128 rfl rfl ?_
  refine r_bastore X90 (pc' := 131) (i := 15) (v := (85 : Int32)) at_130 A92 rfl (by decide) geb14 rfl rfl (fun T93 h94 X95 W96 A97 => ?_)
  obtain ⟨f, hf⟩ : ∃ f, f = (upd (upd (upd (upd (upd (upd (upd (upd (upd (upd (upd (upd (upd (upd (upd (upd (fun _ => 0) 0 (85 : Int32)) 1 (85 : Int32)) 2 (85 : Int32)) 3 (85 : Int32)) 4 (85 : Int32)) 5 (85 : Int32)) 6 (85 : Int32)) 7 (85 : Int32)) 8 (85 : Int32)) 9 (85 : Int32)) 10 (85 : Int32)) 11 (85 : Int32)) 12 (85 : Int32)) 13 (85 : Int32)) 14 (85 : Int32)) 15 (85 : Int32)) := ⟨_, rfl⟩
  have A9 := A97
  rw [← hf] at A9
  have h85 : ∀ n, n < 16 → (f n).toInt = 85 := by
    intro n hn; rw [hf]
    have : n = 0 ∨ n = 1 ∨ n = 2 ∨ n = 3 ∨ n = 4 ∨ n = 5 ∨ n = 6 ∨ n = 7 ∨ n = 8 ∨ n = 9 ∨ n = 10 ∨ n = 11 ∨ n = 12 ∨ n = 13 ∨ n = 14 ∨ n = 15 := by omega
    rcases this with rfl | rfl | rfl | rfl | rfl | rfl | rfl | rfl | rfl | rfl | rfl | rfl | rfl | rfl | rfl | rfl <;> rfl
  refine r_lloadN X95 (pc' := 132) at_131 rfl rfl ?_
  refine r_aload X95 (pc' := 134) at_132 rfl rfl ?_
  refine r_iload X95 (pc' := 136) at_134 rfl rfl ?_
  refine r_callS X95 (pc' := 139) at_136 (con_w l Z a0 hw vv b14 oo f V i h94 n0 X95.sz A9 geb14 hV hi hi5) (wd hw 4 rfl) (wd hw 5 rfl) (wd hw 6 rfl) (wd hw 7 rfl) (by decide) (argsL := [(.long vv), (.ref b14), (.int oo)]) (rest := []) (W := 0) rfl rfl pd_writeDigits rfl rfl (by decide) (by decide) (by decide) (by decide) rfl (fun v98 T99 h100 X101 QQ102 => ?_)
  obtain ⟨rfl, g, Ag, D⟩ := QQ102
  show Run p e below _ _ (mkF m 139 #[.val (.long p1), .second, .val (.int p2), .val (.long vv), .second, .val (.int oo), .val (.ref b14), .unset, .unset, .unset] [])
  have H1 : ∀ n, n < 16 → (n < i ∨ i + 10 < n) → (g n).toInt = 85 := fun n hn q => by rw [D.2 n (by omega)]; exact h85 n hn
  have H2 : ∀ n, i ≤ n → n ≤ i + 10 → 48 ≤ (g n).toInt ∧ (g n).toInt ≤ 57 := fun n h1 h2 => by rw [D.1 n (by omega) h2]; omega
  refine r_aload X101 (pc' := 141) at_139 rfl rfl ?_
  refine r_iconst X101 (pc' := 142) (v := (0 : Int32)) at_141 rfl rfl ?_
  refine r_iload X101 (pc' := 144) at_142 rfl rfl ?_
  refine r_callS X101 (pc' := 147) at_144 (con_c l Z a0 hw b14 (0 : Int32) oo g 0 i h100 n0 X101.sz Ag rfl (by decide) hi hi5 (H1 0 (by decide)) (H2 0)) (wd hw 10 rfl) (wd hw 11 rfl) (wd hw 12 rfl) (wd hw 13 rfl) (by decide) (argsL := [(.ref b14), (.int (0 : Int32)), (.int oo)]) (rest := []) (W := 0) rfl rfl pd_cell rfl rfl (by decide) (by decide) (by decide) (by decide) rfl (fun v103 T104 h105 X106 QQ107 => ?_)
  obtain ⟨rfl, rfl⟩ := QQ107
  show Run p e below _ _ (mkF m 147 #[.val (.long p1), .second, .val (.int p2), .val (.long vv), .second, .val (.int oo), .val (.ref b14), .unset, .unset, .unset] [(.int (1 : Int32))])
  refine r_ifN X106 (pc2 := 150) at_147 (by decide) rfl (a := 1) (b := 0) rfl rfl (show ¬ (1 = 0) from (by decide)) ?_
  refine r_aload X106 (pc' := 152) at_150 rfl rfl ?_
  refine r_iconst X106 (pc' := 153) (v := (1 : Int32)) at_152 rfl rfl ?_
  refine r_iload X106 (pc' := 155) at_153 rfl rfl ?_
  refine r_callS X106 (pc' := 158) at_155 (con_c l Z a0 hw b14 (1 : Int32) oo g 1 i h100 n0 X106.sz Ag rfl (by decide) hi hi5 (H1 1 (by decide)) (H2 1)) (wd hw 10 rfl) (wd hw 11 rfl) (wd hw 12 rfl) (wd hw 13 rfl) (by decide) (argsL := [(.ref b14), (.int (1 : Int32)), (.int oo)]) (rest := []) (W := 0) rfl rfl pd_cell rfl rfl (by decide) (by decide) (by decide) (by decide) rfl (fun v108 T109 h110 X111 QQ112 => ?_)
  obtain ⟨rfl, rfl⟩ := QQ112
  show Run p e below _ _ (mkF m 158 #[.val (.long p1), .second, .val (.int p2), .val (.long vv), .second, .val (.int oo), .val (.ref b14), .unset, .unset, .unset] [(.int (1 : Int32))])
  refine r_ifN X111 (pc2 := 161) at_158 (by decide) rfl (a := 1) (b := 0) rfl rfl (show ¬ (1 = 0) from (by decide)) ?_
  refine r_aload X111 (pc' := 163) at_161 rfl rfl ?_
  refine r_iconst X111 (pc' := 164) (v := (2 : Int32)) at_163 rfl rfl ?_
  refine r_iload X111 (pc' := 166) at_164 rfl rfl ?_
  refine r_callS X111 (pc' := 169) at_166 (con_c l Z a0 hw b14 (2 : Int32) oo g 2 i h100 n0 X111.sz Ag rfl (by decide) hi hi5 (H1 2 (by decide)) (H2 2)) (wd hw 10 rfl) (wd hw 11 rfl) (wd hw 12 rfl) (wd hw 13 rfl) (by decide) (argsL := [(.ref b14), (.int (2 : Int32)), (.int oo)]) (rest := []) (W := 0) rfl rfl pd_cell rfl rfl (by decide) (by decide) (by decide) (by decide) rfl (fun v113 T114 h115 X116 QQ117 => ?_)
  obtain ⟨rfl, rfl⟩ := QQ117
  show Run p e below _ _ (mkF m 169 #[.val (.long p1), .second, .val (.int p2), .val (.long vv), .second, .val (.int oo), .val (.ref b14), .unset, .unset, .unset] [(.int (1 : Int32))])
  refine r_ifN X116 (pc2 := 172) at_169 (by decide) rfl (a := 1) (b := 0) rfl rfl (show ¬ (1 = 0) from (by decide)) ?_
  refine r_aload X116 (pc' := 174) at_172 rfl rfl ?_
  refine r_iconst X116 (pc' := 175) (v := (3 : Int32)) at_174 rfl rfl ?_
  refine r_iload X116 (pc' := 177) at_175 rfl rfl ?_
  refine r_callS X116 (pc' := 180) at_177 (con_c l Z a0 hw b14 (3 : Int32) oo g 3 i h100 n0 X116.sz Ag rfl (by decide) hi hi5 (H1 3 (by decide)) (H2 3)) (wd hw 10 rfl) (wd hw 11 rfl) (wd hw 12 rfl) (wd hw 13 rfl) (by decide) (argsL := [(.ref b14), (.int (3 : Int32)), (.int oo)]) (rest := []) (W := 0) rfl rfl pd_cell rfl rfl (by decide) (by decide) (by decide) (by decide) rfl (fun v118 T119 h120 X121 QQ122 => ?_)
  obtain ⟨rfl, rfl⟩ := QQ122
  show Run p e below _ _ (mkF m 180 #[.val (.long p1), .second, .val (.int p2), .val (.long vv), .second, .val (.int oo), .val (.ref b14), .unset, .unset, .unset] [(.int (1 : Int32))])
  refine r_ifN X121 (pc2 := 183) at_180 (by decide) rfl (a := 1) (b := 0) rfl rfl (show ¬ (1 = 0) from (by decide)) ?_
  refine r_aload X121 (pc' := 185) at_183 rfl rfl ?_
  refine r_iconst X121 (pc' := 186) (v := (4 : Int32)) at_185 rfl rfl ?_
  refine r_iload X121 (pc' := 188) at_186 rfl rfl ?_
  refine r_callS X121 (pc' := 191) at_188 (con_c l Z a0 hw b14 (4 : Int32) oo g 4 i h100 n0 X121.sz Ag rfl (by decide) hi hi5 (H1 4 (by decide)) (H2 4)) (wd hw 10 rfl) (wd hw 11 rfl) (wd hw 12 rfl) (wd hw 13 rfl) (by decide) (argsL := [(.ref b14), (.int (4 : Int32)), (.int oo)]) (rest := []) (W := 0) rfl rfl pd_cell rfl rfl (by decide) (by decide) (by decide) (by decide) rfl (fun v123 T124 h125 X126 QQ127 => ?_)
  obtain ⟨rfl, rfl⟩ := QQ127
  show Run p e below _ _ (mkF m 191 #[.val (.long p1), .second, .val (.int p2), .val (.long vv), .second, .val (.int oo), .val (.ref b14), .unset, .unset, .unset] [(.int (1 : Int32))])
  refine r_ifN X126 (pc2 := 194) at_191 (by decide) rfl (a := 1) (b := 0) rfl rfl (show ¬ (1 = 0) from (by decide)) ?_
  refine r_aload X126 (pc' := 196) at_194 rfl rfl ?_
  refine r_iconst X126 (pc' := 197) (v := (5 : Int32)) at_196 rfl rfl ?_
  refine r_iload X126 (pc' := 199) at_197 rfl rfl ?_
  refine r_callS X126 (pc' := 202) at_199 (con_c l Z a0 hw b14 (5 : Int32) oo g 5 i h100 n0 X126.sz Ag rfl (by decide) hi hi5 (H1 5 (by decide)) (H2 5)) (wd hw 10 rfl) (wd hw 11 rfl) (wd hw 12 rfl) (wd hw 13 rfl) (by decide) (argsL := [(.ref b14), (.int (5 : Int32)), (.int oo)]) (rest := []) (W := 0) rfl rfl pd_cell rfl rfl (by decide) (by decide) (by decide) (by decide) rfl (fun v128 T129 h130 X131 QQ132 => ?_)
  obtain ⟨rfl, rfl⟩ := QQ132
  show Run p e below _ _ (mkF m 202 #[.val (.long p1), .second, .val (.int p2), .val (.long vv), .second, .val (.int oo), .val (.ref b14), .unset, .unset, .unset] [(.int (1 : Int32))])
  refine r_ifN X131 (pc2 := 205) at_202 (by decide) rfl (a := 1) (b := 0) rfl rfl (show ¬ (1 = 0) from (by decide)) ?_
  refine r_aload X131 (pc' := 207) at_205 rfl rfl ?_
  refine r_bipush X131 (pc' := 209) (v := (6 : Int32)) at_207 rfl rfl ?_
  refine r_iload X131 (pc' := 211) at_209 rfl rfl ?_
  refine r_callS X131 (pc' := 214) at_211 (con_c l Z a0 hw b14 (6 : Int32) oo g 6 i h100 n0 X131.sz Ag rfl (by decide) hi hi5 (H1 6 (by decide)) (H2 6)) (wd hw 10 rfl) (wd hw 11 rfl) (wd hw 12 rfl) (wd hw 13 rfl) (by decide) (argsL := [(.ref b14), (.int (6 : Int32)), (.int oo)]) (rest := []) (W := 0) rfl rfl pd_cell rfl rfl (by decide) (by decide) (by decide) (by decide) rfl (fun v133 T134 h135 X136 QQ137 => ?_)
  obtain ⟨rfl, rfl⟩ := QQ137
  show Run p e below _ _ (mkF m 214 #[.val (.long p1), .second, .val (.int p2), .val (.long vv), .second, .val (.int oo), .val (.ref b14), .unset, .unset, .unset] [(.int (1 : Int32))])
  refine r_ifN X136 (pc2 := 217) at_214 (by decide) rfl (a := 1) (b := 0) rfl rfl (show ¬ (1 = 0) from (by decide)) ?_
  refine r_aload X136 (pc' := 219) at_217 rfl rfl ?_
  refine r_bipush X136 (pc' := 221) (v := (7 : Int32)) at_219 rfl rfl ?_
  refine r_iload X136 (pc' := 223) at_221 rfl rfl ?_
  refine r_callS X136 (pc' := 226) at_223 (con_c l Z a0 hw b14 (7 : Int32) oo g 7 i h100 n0 X136.sz Ag rfl (by decide) hi hi5 (H1 7 (by decide)) (H2 7)) (wd hw 10 rfl) (wd hw 11 rfl) (wd hw 12 rfl) (wd hw 13 rfl) (by decide) (argsL := [(.ref b14), (.int (7 : Int32)), (.int oo)]) (rest := []) (W := 0) rfl rfl pd_cell rfl rfl (by decide) (by decide) (by decide) (by decide) rfl (fun v138 T139 h140 X141 QQ142 => ?_)
  obtain ⟨rfl, rfl⟩ := QQ142
  show Run p e below _ _ (mkF m 226 #[.val (.long p1), .second, .val (.int p2), .val (.long vv), .second, .val (.int oo), .val (.ref b14), .unset, .unset, .unset] [(.int (1 : Int32))])
  refine r_ifN X141 (pc2 := 229) at_226 (by decide) rfl (a := 1) (b := 0) rfl rfl (show ¬ (1 = 0) from (by decide)) ?_
  refine r_aload X141 (pc' := 231) at_229 rfl rfl ?_
  refine r_bipush X141 (pc' := 233) (v := (8 : Int32)) at_231 rfl rfl ?_
  refine r_iload X141 (pc' := 235) at_233 rfl rfl ?_
  refine r_callS X141 (pc' := 238) at_235 (con_c l Z a0 hw b14 (8 : Int32) oo g 8 i h100 n0 X141.sz Ag rfl (by decide) hi hi5 (H1 8 (by decide)) (H2 8)) (wd hw 10 rfl) (wd hw 11 rfl) (wd hw 12 rfl) (wd hw 13 rfl) (by decide) (argsL := [(.ref b14), (.int (8 : Int32)), (.int oo)]) (rest := []) (W := 0) rfl rfl pd_cell rfl rfl (by decide) (by decide) (by decide) (by decide) rfl (fun v143 T144 h145 X146 QQ147 => ?_)
  obtain ⟨rfl, rfl⟩ := QQ147
  show Run p e below _ _ (mkF m 238 #[.val (.long p1), .second, .val (.int p2), .val (.long vv), .second, .val (.int oo), .val (.ref b14), .unset, .unset, .unset] [(.int (1 : Int32))])
  refine r_ifN X146 (pc2 := 241) at_238 (by decide) rfl (a := 1) (b := 0) rfl rfl (show ¬ (1 = 0) from (by decide)) ?_
  refine r_aload X146 (pc' := 243) at_241 rfl rfl ?_
  refine r_bipush X146 (pc' := 245) (v := (9 : Int32)) at_243 rfl rfl ?_
  refine r_iload X146 (pc' := 247) at_245 rfl rfl ?_
  refine r_callS X146 (pc' := 250) at_247 (con_c l Z a0 hw b14 (9 : Int32) oo g 9 i h100 n0 X146.sz Ag rfl (by decide) hi hi5 (H1 9 (by decide)) (H2 9)) (wd hw 10 rfl) (wd hw 11 rfl) (wd hw 12 rfl) (wd hw 13 rfl) (by decide) (argsL := [(.ref b14), (.int (9 : Int32)), (.int oo)]) (rest := []) (W := 0) rfl rfl pd_cell rfl rfl (by decide) (by decide) (by decide) (by decide) rfl (fun v148 T149 h150 X151 QQ152 => ?_)
  obtain ⟨rfl, rfl⟩ := QQ152
  show Run p e below _ _ (mkF m 250 #[.val (.long p1), .second, .val (.int p2), .val (.long vv), .second, .val (.int oo), .val (.ref b14), .unset, .unset, .unset] [(.int (1 : Int32))])
  refine r_ifN X151 (pc2 := 253) at_250 (by decide) rfl (a := 1) (b := 0) rfl rfl (show ¬ (1 = 0) from (by decide)) ?_
  refine r_aload X151 (pc' := 255) at_253 rfl rfl ?_
  refine r_bipush X151 (pc' := 257) (v := (10 : Int32)) at_255 rfl rfl ?_
  refine r_iload X151 (pc' := 259) at_257 rfl rfl ?_
  refine r_callS X151 (pc' := 262) at_259 (con_c l Z a0 hw b14 (10 : Int32) oo g 10 i h100 n0 X151.sz Ag rfl (by decide) hi hi5 (H1 10 (by decide)) (H2 10)) (wd hw 10 rfl) (wd hw 11 rfl) (wd hw 12 rfl) (wd hw 13 rfl) (by decide) (argsL := [(.ref b14), (.int (10 : Int32)), (.int oo)]) (rest := []) (W := 0) rfl rfl pd_cell rfl rfl (by decide) (by decide) (by decide) (by decide) rfl (fun v153 T154 h155 X156 QQ157 => ?_)
  obtain ⟨rfl, rfl⟩ := QQ157
  show Run p e below _ _ (mkF m 262 #[.val (.long p1), .second, .val (.int p2), .val (.long vv), .second, .val (.int oo), .val (.ref b14), .unset, .unset, .unset] [(.int (1 : Int32))])
  refine r_ifN X156 (pc2 := 265) at_262 (by decide) rfl (a := 1) (b := 0) rfl rfl (show ¬ (1 = 0) from (by decide)) ?_
  refine r_aload X156 (pc' := 267) at_265 rfl rfl ?_
  refine r_bipush X156 (pc' := 269) (v := (11 : Int32)) at_267 rfl rfl ?_
  refine r_iload X156 (pc' := 271) at_269 rfl rfl ?_
  refine r_callS X156 (pc' := 274) at_271 (con_c l Z a0 hw b14 (11 : Int32) oo g 11 i h100 n0 X156.sz Ag rfl (by decide) hi hi5 (H1 11 (by decide)) (H2 11)) (wd hw 10 rfl) (wd hw 11 rfl) (wd hw 12 rfl) (wd hw 13 rfl) (by decide) (argsL := [(.ref b14), (.int (11 : Int32)), (.int oo)]) (rest := []) (W := 0) rfl rfl pd_cell rfl rfl (by decide) (by decide) (by decide) (by decide) rfl (fun v158 T159 h160 X161 QQ162 => ?_)
  obtain ⟨rfl, rfl⟩ := QQ162
  show Run p e below _ _ (mkF m 274 #[.val (.long p1), .second, .val (.int p2), .val (.long vv), .second, .val (.int oo), .val (.ref b14), .unset, .unset, .unset] [(.int (1 : Int32))])
  refine r_ifN X161 (pc2 := 277) at_274 (by decide) rfl (a := 1) (b := 0) rfl rfl (show ¬ (1 = 0) from (by decide)) ?_
  refine r_aload X161 (pc' := 279) at_277 rfl rfl ?_
  refine r_bipush X161 (pc' := 281) (v := (12 : Int32)) at_279 rfl rfl ?_
  refine r_iload X161 (pc' := 283) at_281 rfl rfl ?_
  refine r_callS X161 (pc' := 286) at_283 (con_c l Z a0 hw b14 (12 : Int32) oo g 12 i h100 n0 X161.sz Ag rfl (by decide) hi hi5 (H1 12 (by decide)) (H2 12)) (wd hw 10 rfl) (wd hw 11 rfl) (wd hw 12 rfl) (wd hw 13 rfl) (by decide) (argsL := [(.ref b14), (.int (12 : Int32)), (.int oo)]) (rest := []) (W := 0) rfl rfl pd_cell rfl rfl (by decide) (by decide) (by decide) (by decide) rfl (fun v163 T164 h165 X166 QQ167 => ?_)
  obtain ⟨rfl, rfl⟩ := QQ167
  show Run p e below _ _ (mkF m 286 #[.val (.long p1), .second, .val (.int p2), .val (.long vv), .second, .val (.int oo), .val (.ref b14), .unset, .unset, .unset] [(.int (1 : Int32))])
  refine r_ifN X166 (pc2 := 289) at_286 (by decide) rfl (a := 1) (b := 0) rfl rfl (show ¬ (1 = 0) from (by decide)) ?_
  refine r_aload X166 (pc' := 291) at_289 rfl rfl ?_
  refine r_bipush X166 (pc' := 293) (v := (13 : Int32)) at_291 rfl rfl ?_
  refine r_iload X166 (pc' := 295) at_293 rfl rfl ?_
  refine r_callS X166 (pc' := 298) at_295 (con_c l Z a0 hw b14 (13 : Int32) oo g 13 i h100 n0 X166.sz Ag rfl (by decide) hi hi5 (H1 13 (by decide)) (H2 13)) (wd hw 10 rfl) (wd hw 11 rfl) (wd hw 12 rfl) (wd hw 13 rfl) (by decide) (argsL := [(.ref b14), (.int (13 : Int32)), (.int oo)]) (rest := []) (W := 0) rfl rfl pd_cell rfl rfl (by decide) (by decide) (by decide) (by decide) rfl (fun v168 T169 h170 X171 QQ172 => ?_)
  obtain ⟨rfl, rfl⟩ := QQ172
  show Run p e below _ _ (mkF m 298 #[.val (.long p1), .second, .val (.int p2), .val (.long vv), .second, .val (.int oo), .val (.ref b14), .unset, .unset, .unset] [(.int (1 : Int32))])
  refine r_ifN X171 (pc2 := 301) at_298 (by decide) rfl (a := 1) (b := 0) rfl rfl (show ¬ (1 = 0) from (by decide)) ?_
  refine r_aload X171 (pc' := 303) at_301 rfl rfl ?_
  refine r_bipush X171 (pc' := 305) (v := (14 : Int32)) at_303 rfl rfl ?_
  refine r_iload X171 (pc' := 307) at_305 rfl rfl ?_
  refine r_callS X171 (pc' := 310) at_307 (con_c l Z a0 hw b14 (14 : Int32) oo g 14 i h100 n0 X171.sz Ag rfl (by decide) hi hi5 (H1 14 (by decide)) (H2 14)) (wd hw 10 rfl) (wd hw 11 rfl) (wd hw 12 rfl) (wd hw 13 rfl) (by decide) (argsL := [(.ref b14), (.int (14 : Int32)), (.int oo)]) (rest := []) (W := 0) rfl rfl pd_cell rfl rfl (by decide) (by decide) (by decide) (by decide) rfl (fun v173 T174 h175 X176 QQ177 => ?_)
  obtain ⟨rfl, rfl⟩ := QQ177
  show Run p e below _ _ (mkF m 310 #[.val (.long p1), .second, .val (.int p2), .val (.long vv), .second, .val (.int oo), .val (.ref b14), .unset, .unset, .unset] [(.int (1 : Int32))])
  refine r_ifN X176 (pc2 := 313) at_310 (by decide) rfl (a := 1) (b := 0) rfl rfl (show ¬ (1 = 0) from (by decide)) ?_
  refine r_aload X176 (pc' := 315) at_313 rfl rfl ?_
  refine r_bipush X176 (pc' := 317) (v := (15 : Int32)) at_315 rfl rfl ?_
  refine r_iload X176 (pc' := 319) at_317 rfl rfl ?_
  refine r_callS X176 (pc' := 322) at_319 (con_c l Z a0 hw b14 (15 : Int32) oo g 15 i h100 n0 X176.sz Ag rfl (by decide) hi hi5 (H1 15 (by decide)) (H2 15)) (wd hw 10 rfl) (wd hw 11 rfl) (wd hw 12 rfl) (wd hw 13 rfl) (by decide) (argsL := [(.ref b14), (.int (15 : Int32)), (.int oo)]) (rest := []) (W := 0) rfl rfl pd_cell rfl rfl (by decide) (by decide) (by decide) (by decide) rfl (fun v178 T179 h180 X181 QQ182 => ?_)
  obtain ⟨rfl, rfl⟩ := QQ182
  show Run p e below _ _ (mkF m 322 #[.val (.long p1), .second, .val (.int p2), .val (.long vv), .second, .val (.int oo), .val (.ref b14), .unset, .unset, .unset] [(.int (1 : Int32))])
  have d0 : ∀ k, k ≤ 10 → (g (i + k)).toInt = 48 + ((V / 10 ^ (10 - k) % 10 : Nat) : Int) := fun k hk => by rw [D.1 (i + k) (by omega) (by omega), show i + 10 - (i + k) = 10 - k by omega]
  have kb0 : (0 : Int64).toInt = ((V / 10 ^ 11 : Nat) : Int) := by rw [Nat.div_eq_of_lt (by omega)]; rfl
  refine r_ifN X181 (pc2 := 325) at_322 (by decide) rfl (a := 1) (b := 0) rfl rfl (show ¬ (1 = 0) from (by decide)) ?_
  refine r_iconst X181 (pc' := 326) (v := (1 : Int32)) at_325 rfl rfl ?_
  refine r_goto X181 (pc' := 330) at_326 (by decide) (by decide) ?_
  refine r_istore X181 (pc' := 332) (ls' := #[.val (.long p1), .second, .val (.int p2), .val (.long vv), .second, .val (.int oo), .val (.ref b14), .val (.int (1 : Int32)), .unset, .unset]) at_330 rfl rfl ?_
  refine r_lconst X181 (pc' := 333) (v := (0 : Int64)) at_332 rfl rfl ?_
  refine r_lstore X181 (pc' := 335) (ls' := #[.val (.long p1), .second, .val (.int p2), .val (.long vv), .second, .val (.int oo), .val (.ref b14), .val (.int (1 : Int32)), .val (.long (0 : Int64)), .second]) at_333 rfl rfl ?_
  refine r_lload X181 (pc' := 337) at_335 rfl rfl ?_
  refine r_ldc2J X181 (pc' := 340) (v := (10 : Int64)) at_337 (wd hw 14 rfl) rfl ?_
  obtain ⟨m0, hm0⟩ : ∃ z, (0 : Int64) * (10 : Int64) = z := ⟨_, rfl⟩
  have km0 : m0.toInt = ((V / 10 ^ 11 : Nat) : Int) * 10 := by rw [← hm0, Jvm.Kit.i64_mul (by rw [kb0, own_l10]; omega) (by rw [kb0, own_l10]; omega), kb0]; rfl
  refine r_lmul X181 (pc' := 341) (z := m0) at_340 hm0 rfl ?_
  refine r_aload X181 (pc' := 343) at_341 rfl rfl ?_
  refine r_iload X181 (pc' := 345) at_343 rfl rfl ?_
  refine r_callS X181 (pc' := 348) at_345 (con_d l Z a0 hw b14 oo g (i + 0) h100 n0 X181.sz Ag hi (by omega) (H2 _ (by omega) (by omega))) (wd hw 15 rfl) (wd hw 16 rfl) (wd hw 12 rfl) (wd hw 17 rfl) (by decide) (argsL := [(.ref b14), (.int oo)]) (rest := [(.long m0)]) (W := 2) rfl rfl pd_digit rfl rfl (by decide) (by decide) (by decide) (by decide) rfl (fun v183 T184 h185 X186 QQ187 => ?_)
  obtain ⟨⟨e0, rfl, he0⟩, rfl⟩ := QQ187
  show Run p e below _ _ (mkF m 348 #[.val (.long p1), .second, .val (.int p2), .val (.long vv), .second, .val (.int oo), .val (.ref b14), .val (.int (1 : Int32)), .val (.long (0 : Int64)), .second] [(.long e0), (.long m0)])
  rw [d0 0 (by decide)] at he0
  obtain ⟨b1, hb1⟩ : ∃ z, m0 + e0 = z := ⟨_, rfl⟩
  have kb1 : b1.toInt = ((V / 10 ^ 10 : Nat) : Int) := by rw [← hb1, Jvm.Kit.i64_add (by omega) (by omega), km0, he0]; omega
  obtain ⟨s1, hs1⟩ : ∃ z, oo + (1 : Int32) = z := ⟨_, rfl⟩
  have ks1 : s1.toInt = ((i + 1 : Nat) : Int) := by rw [← hs1, n_add hi (show (1 : Int32).toInt = 1 from rfl) (by omega) (by omega)]; omega
  refine r_ladd X186 (pc' := 349) (z := b1) at_348 hb1 rfl ?_
  refine r_lstore X186 (pc' := 351) (ls' := #[.val (.long p1), .second, .val (.int p2), .val (.long vv), .second, .val (.int oo), .val (.ref b14), .val (.int (1 : Int32)), .val (.long b1), .second]) at_349 rfl rfl ?_
  refine r_lload X186 (pc' := 353) at_351 rfl rfl ?_
  refine r_ldc2J X186 (pc' := 356) (v := (10 : Int64)) at_353 (wd hw 14 rfl) rfl ?_
  obtain ⟨m1, hm1⟩ : ∃ z, b1 * (10 : Int64) = z := ⟨_, rfl⟩
  have km1 : m1.toInt = ((V / 10 ^ 10 : Nat) : Int) * 10 := by rw [← hm1, Jvm.Kit.i64_mul (by rw [kb1, own_l10]; omega) (by rw [kb1, own_l10]; omega), kb1]; rfl
  refine r_lmul X186 (pc' := 357) (z := m1) at_356 hm1 rfl ?_
  refine r_aload X186 (pc' := 359) at_357 rfl rfl ?_
  refine r_iload X186 (pc' := 361) at_359 rfl rfl ?_
  refine r_iconst X186 (pc' := 362) (v := (1 : Int32)) at_361 rfl rfl ?_
  refine r_iadd X186 (pc' := 363) (z := s1) at_362 hs1 rfl ?_
  refine r_callS X186 (pc' := 366) at_363 (con_d l Z a0 hw b14 s1 g (i + 1) h100 n0 X186.sz Ag ks1 (by omega) (H2 _ (by omega) (by omega))) (wd hw 15 rfl) (wd hw 16 rfl) (wd hw 12 rfl) (wd hw 17 rfl) (by decide) (argsL := [(.ref b14), (.int s1)]) (rest := [(.long m1)]) (W := 2) rfl rfl pd_digit rfl rfl (by decide) (by decide) (by decide) (by decide) rfl (fun v188 T189 h190 X191 QQ192 => ?_)
  obtain ⟨⟨e1, rfl, he1⟩, rfl⟩ := QQ192
  show Run p e below _ _ (mkF m 366 #[.val (.long p1), .second, .val (.int p2), .val (.long vv), .second, .val (.int oo), .val (.ref b14), .val (.int (1 : Int32)), .val (.long b1), .second] [(.long e1), (.long m1)])
  rw [d0 1 (by decide)] at he1
  obtain ⟨b2, hb2⟩ : ∃ z, m1 + e1 = z := ⟨_, rfl⟩
  have kb2 : b2.toInt = ((V / 10 ^ 9 : Nat) : Int) := by rw [← hb2, Jvm.Kit.i64_add (by omega) (by omega), km1, he1]; omega
  obtain ⟨s2, hs2⟩ : ∃ z, oo + (2 : Int32) = z := ⟨_, rfl⟩
  have ks2 : s2.toInt = ((i + 2 : Nat) : Int) := by rw [← hs2, n_add hi (show (2 : Int32).toInt = 2 from rfl) (by omega) (by omega)]; omega
  refine r_ladd X191 (pc' := 367) (z := b2) at_366 hb2 rfl ?_
  refine r_lstore X191 (pc' := 369) (ls' := #[.val (.long p1), .second, .val (.int p2), .val (.long vv), .second, .val (.int oo), .val (.ref b14), .val (.int (1 : Int32)), .val (.long b2), .second]) at_367 rfl rfl ?_
  refine r_lload X191 (pc' := 371) at_369 rfl rfl ?_
  refine r_ldc2J X191 (pc' := 374) (v := (10 : Int64)) at_371 (wd hw 14 rfl) rfl ?_
  obtain ⟨m2, hm2⟩ : ∃ z, b2 * (10 : Int64) = z := ⟨_, rfl⟩
  have km2 : m2.toInt = ((V / 10 ^ 9 : Nat) : Int) * 10 := by rw [← hm2, Jvm.Kit.i64_mul (by rw [kb2, own_l10]; omega) (by rw [kb2, own_l10]; omega), kb2]; rfl
  refine r_lmul X191 (pc' := 375) (z := m2) at_374 hm2 rfl ?_
  refine r_aload X191 (pc' := 377) at_375 rfl rfl ?_
  refine r_iload X191 (pc' := 379) at_377 rfl rfl ?_
  refine r_iconst X191 (pc' := 380) (v := (2 : Int32)) at_379 rfl rfl ?_
  refine r_iadd X191 (pc' := 381) (z := s2) at_380 hs2 rfl ?_
  refine r_callS X191 (pc' := 384) at_381 (con_d l Z a0 hw b14 s2 g (i + 2) h100 n0 X191.sz Ag ks2 (by omega) (H2 _ (by omega) (by omega))) (wd hw 15 rfl) (wd hw 16 rfl) (wd hw 12 rfl) (wd hw 17 rfl) (by decide) (argsL := [(.ref b14), (.int s2)]) (rest := [(.long m2)]) (W := 2) rfl rfl pd_digit rfl rfl (by decide) (by decide) (by decide) (by decide) rfl (fun v193 T194 h195 X196 QQ197 => ?_)
  obtain ⟨⟨e2, rfl, he2⟩, rfl⟩ := QQ197
  show Run p e below _ _ (mkF m 384 #[.val (.long p1), .second, .val (.int p2), .val (.long vv), .second, .val (.int oo), .val (.ref b14), .val (.int (1 : Int32)), .val (.long b2), .second] [(.long e2), (.long m2)])
  rw [d0 2 (by decide)] at he2
  obtain ⟨b3, hb3⟩ : ∃ z, m2 + e2 = z := ⟨_, rfl⟩
  have kb3 : b3.toInt = ((V / 10 ^ 8 : Nat) : Int) := by rw [← hb3, Jvm.Kit.i64_add (by omega) (by omega), km2, he2]; omega
  obtain ⟨s3, hs3⟩ : ∃ z, oo + (3 : Int32) = z := ⟨_, rfl⟩
  have ks3 : s3.toInt = ((i + 3 : Nat) : Int) := by rw [← hs3, n_add hi (show (3 : Int32).toInt = 3 from rfl) (by omega) (by omega)]; omega
  refine r_ladd X196 (pc' := 385) (z := b3) at_384 hb3 rfl ?_
  refine r_lstore X196 (pc' := 387) (ls' := #[.val (.long p1), .second, .val (.int p2), .val (.long vv), .second, .val (.int oo), .val (.ref b14), .val (.int (1 : Int32)), .val (.long b3), .second]) at_385 rfl rfl ?_
  refine r_lload X196 (pc' := 389) at_387 rfl rfl ?_
  refine r_ldc2J X196 (pc' := 392) (v := (10 : Int64)) at_389 (wd hw 14 rfl) rfl ?_
  obtain ⟨m3, hm3⟩ : ∃ z, b3 * (10 : Int64) = z := ⟨_, rfl⟩
  have km3 : m3.toInt = ((V / 10 ^ 8 : Nat) : Int) * 10 := by rw [← hm3, Jvm.Kit.i64_mul (by rw [kb3, own_l10]; omega) (by rw [kb3, own_l10]; omega), kb3]; rfl
  refine r_lmul X196 (pc' := 393) (z := m3) at_392 hm3 rfl ?_
  refine r_aload X196 (pc' := 395) at_393 rfl rfl ?_
  refine r_iload X196 (pc' := 397) at_395 rfl rfl ?_
  refine r_iconst X196 (pc' := 398) (v := (3 : Int32)) at_397 rfl rfl ?_
  refine r_iadd X196 (pc' := 399) (z := s3) at_398 hs3 rfl ?_
  refine r_callS X196 (pc' := 402) at_399 (con_d l Z a0 hw b14 s3 g (i + 3) h100 n0 X196.sz Ag ks3 (by omega) (H2 _ (by omega) (by omega))) (wd hw 15 rfl) (wd hw 16 rfl) (wd hw 12 rfl) (wd hw 17 rfl) (by decide) (argsL := [(.ref b14), (.int s3)]) (rest := [(.long m3)]) (W := 2) rfl rfl pd_digit rfl rfl (by decide) (by decide) (by decide) (by decide) rfl (fun v198 T199 h200 X201 QQ202 => ?_)
  obtain ⟨⟨e3, rfl, he3⟩, rfl⟩ := QQ202
  show Run p e below _ _ (mkF m 402 #[.val (.long p1), .second, .val (.int p2), .val (.long vv), .second, .val (.int oo), .val (.ref b14), .val (.int (1 : Int32)), .val (.long b3), .second] [(.long e3), (.long m3)])
  rw [d0 3 (by decide)] at he3
  obtain ⟨b4, hb4⟩ : ∃ z, m3 + e3 = z := ⟨_, rfl⟩
  have kb4 : b4.toInt = ((V / 10 ^ 7 : Nat) : Int) := by rw [← hb4, Jvm.Kit.i64_add (by omega) (by omega), km3, he3]; omega
  obtain ⟨s4, hs4⟩ : ∃ z, oo + (4 : Int32) = z := ⟨_, rfl⟩
  have ks4 : s4.toInt = ((i + 4 : Nat) : Int) := by rw [← hs4, n_add hi (show (4 : Int32).toInt = 4 from rfl) (by omega) (by omega)]; omega
  refine r_ladd X201 (pc' := 403) (z := b4) at_402 hb4 rfl ?_
  refine r_lstore X201 (pc' := 405) (ls' := #[.val (.long p1), .second, .val (.int p2), .val (.long vv), .second, .val (.int oo), .val (.ref b14), .val (.int (1 : Int32)), .val (.long b4), .second]) at_403 rfl rfl ?_
  refine r_lload X201 (pc' := 407) at_405 rfl rfl ?_
  refine r_ldc2J X201 (pc' := 410) (v := (10 : Int64)) at_407 (wd hw 14 rfl) rfl ?_
  obtain ⟨m4, hm4⟩ : ∃ z, b4 * (10 : Int64) = z := ⟨_, rfl⟩
  have km4 : m4.toInt = ((V / 10 ^ 7 : Nat) : Int) * 10 := by rw [← hm4, Jvm.Kit.i64_mul (by rw [kb4, own_l10]; omega) (by rw [kb4, own_l10]; omega), kb4]; rfl
  refine r_lmul X201 (pc' := 411) (z := m4) at_410 hm4 rfl ?_
  refine r_aload X201 (pc' := 413) at_411 rfl rfl ?_
  refine r_iload X201 (pc' := 415) at_413 rfl rfl ?_
  refine r_iconst X201 (pc' := 416) (v := (4 : Int32)) at_415 rfl rfl ?_
  refine r_iadd X201 (pc' := 417) (z := s4) at_416 hs4 rfl ?_
  refine r_callS X201 (pc' := 420) at_417 (con_d l Z a0 hw b14 s4 g (i + 4) h100 n0 X201.sz Ag ks4 (by omega) (H2 _ (by omega) (by omega))) (wd hw 15 rfl) (wd hw 16 rfl) (wd hw 12 rfl) (wd hw 17 rfl) (by decide) (argsL := [(.ref b14), (.int s4)]) (rest := [(.long m4)]) (W := 2) rfl rfl pd_digit rfl rfl (by decide) (by decide) (by decide) (by decide) rfl (fun v203 T204 h205 X206 QQ207 => ?_)
  obtain ⟨⟨e4, rfl, he4⟩, rfl⟩ := QQ207
  show Run p e below _ _ (mkF m 420 #[.val (.long p1), .second, .val (.int p2), .val (.long vv), .second, .val (.int oo), .val (.ref b14), .val (.int (1 : Int32)), .val (.long b4), .second] [(.long e4), (.long m4)])
  rw [d0 4 (by decide)] at he4
  obtain ⟨b5, hb5⟩ : ∃ z, m4 + e4 = z := ⟨_, rfl⟩
  have kb5 : b5.toInt = ((V / 10 ^ 6 : Nat) : Int) := by rw [← hb5, Jvm.Kit.i64_add (by omega) (by omega), km4, he4]; omega
  obtain ⟨s5, hs5⟩ : ∃ z, oo + (5 : Int32) = z := ⟨_, rfl⟩
  have ks5 : s5.toInt = ((i + 5 : Nat) : Int) := by rw [← hs5, n_add hi (show (5 : Int32).toInt = 5 from rfl) (by omega) (by omega)]; omega
  refine r_ladd X206 (pc' := 421) (z := b5) at_420 hb5 rfl ?_
  refine r_lstore X206 (pc' := 423) (ls' := #[.val (.long p1), .second, .val (.int p2), .val (.long vv), .second, .val (.int oo), .val (.ref b14), .val (.int (1 : Int32)), .val (.long b5), .second]) at_421 rfl rfl ?_
  refine r_lload X206 (pc' := 425) at_423 rfl rfl ?_
  refine r_ldc2J X206 (pc' := 428) (v := (10 : Int64)) at_425 (wd hw 14 rfl) rfl ?_
  obtain ⟨m5, hm5⟩ : ∃ z, b5 * (10 : Int64) = z := ⟨_, rfl⟩
  have km5 : m5.toInt = ((V / 10 ^ 6 : Nat) : Int) * 10 := by rw [← hm5, Jvm.Kit.i64_mul (by rw [kb5, own_l10]; omega) (by rw [kb5, own_l10]; omega), kb5]; rfl
  refine r_lmul X206 (pc' := 429) (z := m5) at_428 hm5 rfl ?_
  refine r_aload X206 (pc' := 431) at_429 rfl rfl ?_
  refine r_iload X206 (pc' := 433) at_431 rfl rfl ?_
  refine r_iconst X206 (pc' := 434) (v := (5 : Int32)) at_433 rfl rfl ?_
  refine r_iadd X206 (pc' := 435) (z := s5) at_434 hs5 rfl ?_
  refine r_callS X206 (pc' := 438) at_435 (con_d l Z a0 hw b14 s5 g (i + 5) h100 n0 X206.sz Ag ks5 (by omega) (H2 _ (by omega) (by omega))) (wd hw 15 rfl) (wd hw 16 rfl) (wd hw 12 rfl) (wd hw 17 rfl) (by decide) (argsL := [(.ref b14), (.int s5)]) (rest := [(.long m5)]) (W := 2) rfl rfl pd_digit rfl rfl (by decide) (by decide) (by decide) (by decide) rfl (fun v208 T209 h210 X211 QQ212 => ?_)
  obtain ⟨⟨e5, rfl, he5⟩, rfl⟩ := QQ212
  show Run p e below _ _ (mkF m 438 #[.val (.long p1), .second, .val (.int p2), .val (.long vv), .second, .val (.int oo), .val (.ref b14), .val (.int (1 : Int32)), .val (.long b5), .second] [(.long e5), (.long m5)])
  rw [d0 5 (by decide)] at he5
  obtain ⟨b6, hb6⟩ : ∃ z, m5 + e5 = z := ⟨_, rfl⟩
  have kb6 : b6.toInt = ((V / 10 ^ 5 : Nat) : Int) := by rw [← hb6, Jvm.Kit.i64_add (by omega) (by omega), km5, he5]; omega
  obtain ⟨s6, hs6⟩ : ∃ z, oo + (6 : Int32) = z := ⟨_, rfl⟩
  have ks6 : s6.toInt = ((i + 6 : Nat) : Int) := by rw [← hs6, n_add hi (show (6 : Int32).toInt = 6 from rfl) (by omega) (by omega)]; omega
  refine r_ladd X211 (pc' := 439) (z := b6) at_438 hb6 rfl ?_
  refine r_lstore X211 (pc' := 441) (ls' := #[.val (.long p1), .second, .val (.int p2), .val (.long vv), .second, .val (.int oo), .val (.ref b14), .val (.int (1 : Int32)), .val (.long b6), .second]) at_439 rfl rfl ?_
  refine r_lload X211 (pc' := 443) at_441 rfl rfl ?_
  refine r_ldc2J X211 (pc' := 446) (v := (10 : Int64)) at_443 (wd hw 14 rfl) rfl ?_
  obtain ⟨m6, hm6⟩ : ∃ z, b6 * (10 : Int64) = z := ⟨_, rfl⟩
  have km6 : m6.toInt = ((V / 10 ^ 5 : Nat) : Int) * 10 := by rw [← hm6, Jvm.Kit.i64_mul (by rw [kb6, own_l10]; omega) (by rw [kb6, own_l10]; omega), kb6]; rfl
  refine r_lmul X211 (pc' := 447) (z := m6) at_446 hm6 rfl ?_
  refine r_aload X211 (pc' := 449) at_447 rfl rfl ?_
  refine r_iload X211 (pc' := 451) at_449 rfl rfl ?_
  refine r_bipush X211 (pc' := 453) (v := (6 : Int32)) at_451 rfl rfl ?_
  refine r_iadd X211 (pc' := 454) (z := s6) at_453 hs6 rfl ?_
  refine r_callS X211 (pc' := 457) at_454 (con_d l Z a0 hw b14 s6 g (i + 6) h100 n0 X211.sz Ag ks6 (by omega) (H2 _ (by omega) (by omega))) (wd hw 15 rfl) (wd hw 16 rfl) (wd hw 12 rfl) (wd hw 17 rfl) (by decide) (argsL := [(.ref b14), (.int s6)]) (rest := [(.long m6)]) (W := 2) rfl rfl pd_digit rfl rfl (by decide) (by decide) (by decide) (by decide) rfl (fun v213 T214 h215 X216 QQ217 => ?_)
  obtain ⟨⟨e6, rfl, he6⟩, rfl⟩ := QQ217
  show Run p e below _ _ (mkF m 457 #[.val (.long p1), .second, .val (.int p2), .val (.long vv), .second, .val (.int oo), .val (.ref b14), .val (.int (1 : Int32)), .val (.long b6), .second] [(.long e6), (.long m6)])
  rw [d0 6 (by decide)] at he6
  obtain ⟨b7, hb7⟩ : ∃ z, m6 + e6 = z := ⟨_, rfl⟩
  have kb7 : b7.toInt = ((V / 10 ^ 4 : Nat) : Int) := by rw [← hb7, Jvm.Kit.i64_add (by omega) (by omega), km6, he6]; omega
  obtain ⟨s7, hs7⟩ : ∃ z, oo + (7 : Int32) = z := ⟨_, rfl⟩
  have ks7 : s7.toInt = ((i + 7 : Nat) : Int) := by rw [← hs7, n_add hi (show (7 : Int32).toInt = 7 from rfl) (by omega) (by omega)]; omega
  refine r_ladd X216 (pc' := 458) (z := b7) at_457 hb7 rfl ?_
  refine r_lstore X216 (pc' := 460) (ls' := #[.val (.long p1), .second, .val (.int p2), .val (.long vv), .second, .val (.int oo), .val (.ref b14), .val (.int (1 : Int32)), .val (.long b7), .second]) at_458 rfl rfl ?_
  refine r_lload X216 (pc' := 462) at_460 rfl rfl ?_
  refine r_ldc2J X216 (pc' := 465) (v := (10 : Int64)) at_462 (wd hw 14 rfl) rfl ?_
  obtain ⟨m7, hm7⟩ : ∃ z, b7 * (10 : Int64) = z := ⟨_, rfl⟩
  have km7 : m7.toInt = ((V / 10 ^ 4 : Nat) : Int) * 10 := by rw [← hm7, Jvm.Kit.i64_mul (by rw [kb7, own_l10]; omega) (by rw [kb7, own_l10]; omega), kb7]; rfl
  refine r_lmul X216 (pc' := 466) (z := m7) at_465 hm7 rfl ?_
  refine r_aload X216 (pc' := 468) at_466 rfl rfl ?_
  refine r_iload X216 (pc' := 470) at_468 rfl rfl ?_
  refine r_bipush X216 (pc' := 472) (v := (7 : Int32)) at_470 rfl rfl ?_
  refine r_iadd X216 (pc' := 473) (z := s7) at_472 hs7 rfl ?_
  refine r_callS X216 (pc' := 476) at_473 (con_d l Z a0 hw b14 s7 g (i + 7) h100 n0 X216.sz Ag ks7 (by omega) (H2 _ (by omega) (by omega))) (wd hw 15 rfl) (wd hw 16 rfl) (wd hw 12 rfl) (wd hw 17 rfl) (by decide) (argsL := [(.ref b14), (.int s7)]) (rest := [(.long m7)]) (W := 2) rfl rfl pd_digit rfl rfl (by decide) (by decide) (by decide) (by decide) rfl (fun v218 T219 h220 X221 QQ222 => ?_)
  obtain ⟨⟨e7, rfl, he7⟩, rfl⟩ := QQ222
  show Run p e below _ _ (mkF m 476 #[.val (.long p1), .second, .val (.int p2), .val (.long vv), .second, .val (.int oo), .val (.ref b14), .val (.int (1 : Int32)), .val (.long b7), .second] [(.long e7), (.long m7)])
  rw [d0 7 (by decide)] at he7
  obtain ⟨b8, hb8⟩ : ∃ z, m7 + e7 = z := ⟨_, rfl⟩
  have kb8 : b8.toInt = ((V / 10 ^ 3 : Nat) : Int) := by rw [← hb8, Jvm.Kit.i64_add (by omega) (by omega), km7, he7]; omega
  obtain ⟨s8, hs8⟩ : ∃ z, oo + (8 : Int32) = z := ⟨_, rfl⟩
  have ks8 : s8.toInt = ((i + 8 : Nat) : Int) := by rw [← hs8, n_add hi (show (8 : Int32).toInt = 8 from rfl) (by omega) (by omega)]; omega
  refine r_ladd X221 (pc' := 477) (z := b8) at_476 hb8 rfl ?_
  refine r_lstore X221 (pc' := 479) (ls' := #[.val (.long p1), .second, .val (.int p2), .val (.long vv), .second, .val (.int oo), .val (.ref b14), .val (.int (1 : Int32)), .val (.long b8), .second]) at_477 rfl rfl ?_
  refine r_lload X221 (pc' := 481) at_479 rfl rfl ?_
  refine r_ldc2J X221 (pc' := 484) (v := (10 : Int64)) at_481 (wd hw 14 rfl) rfl ?_
  obtain ⟨m8, hm8⟩ : ∃ z, b8 * (10 : Int64) = z := ⟨_, rfl⟩
  have km8 : m8.toInt = ((V / 10 ^ 3 : Nat) : Int) * 10 := by rw [← hm8, Jvm.Kit.i64_mul (by rw [kb8, own_l10]; omega) (by rw [kb8, own_l10]; omega), kb8]; rfl
  refine r_lmul X221 (pc' := 485) (z := m8) at_484 hm8 rfl ?_
  refine r_aload X221 (pc' := 487) at_485 rfl rfl ?_
  refine r_iload X221 (pc' := 489) at_487 rfl rfl ?_
  refine r_bipush X221 (pc' := 491) (v := (8 : Int32)) at_489 rfl rfl ?_
  refine r_iadd X221 (pc' := 492) (z := s8) at_491 hs8 rfl ?_
  refine r_callS X221 (pc' := 495) at_492 (con_d l Z a0 hw b14 s8 g (i + 8) h100 n0 X221.sz Ag ks8 (by omega) (H2 _ (by omega) (by omega))) (wd hw 15 rfl) (wd hw 16 rfl) (wd hw 12 rfl) (wd hw 17 rfl) (by decide) (argsL := [(.ref b14), (.int s8)]) (rest := [(.long m8)]) (W := 2) rfl rfl pd_digit rfl rfl (by decide) (by decide) (by decide) (by decide) rfl (fun v223 T224 h225 X226 QQ227 => ?_)
  obtain ⟨⟨e8, rfl, he8⟩, rfl⟩ := QQ227
  show Run p e below _ _ (mkF m 495 #[.val (.long p1), .second, .val (.int p2), .val (.long vv), .second, .val (.int oo), .val (.ref b14), .val (.int (1 : Int32)), .val (.long b8), .second] [(.long e8), (.long m8)])
  rw [d0 8 (by decide)] at he8
  obtain ⟨b9, hb9⟩ : ∃ z, m8 + e8 = z := ⟨_, rfl⟩
  have kb9 : b9.toInt = ((V / 10 ^ 2 : Nat) : Int) := by rw [← hb9, Jvm.Kit.i64_add (by omega) (by omega), km8, he8]; omega
  obtain ⟨s9, hs9⟩ : ∃ z, oo + (9 : Int32) = z := ⟨_, rfl⟩
  have ks9 : s9.toInt = ((i + 9 : Nat) : Int) := by rw [← hs9, n_add hi (show (9 : Int32).toInt = 9 from rfl) (by omega) (by omega)]; omega
  refine r_ladd X226 (pc' := 496) (z := b9) at_495 hb9 rfl ?_
  refine r_lstore X226 (pc' := 498) (ls' := #[.val (.long p1), .second, .val (.int p2), .val (.long vv), .second, .val (.int oo), .val (.ref b14), .val (.int (1 : Int32)), .val (.long b9), .second]) at_496 rfl rfl ?_
  refine r_lload X226 (pc' := 500) at_498 rfl rfl ?_
  refine r_ldc2J X226 (pc' := 503) (v := (10 : Int64)) at_500 (wd hw 14 rfl) rfl ?_
  obtain ⟨m9, hm9⟩ : ∃ z, b9 * (10 : Int64) = z := ⟨_, rfl⟩
  have km9 : m9.toInt = ((V / 10 ^ 2 : Nat) : Int) * 10 := by rw [← hm9, Jvm.Kit.i64_mul (by rw [kb9, own_l10]; omega) (by rw [kb9, own_l10]; omega), kb9]; rfl
  refine r_lmul X226 (pc' := 504) (z := m9) at_503 hm9 rfl ?_
  refine r_aload X226 (pc' := 506) at_504 rfl rfl ?_
  refine r_iload X226 (pc' := 508) at_506 rfl rfl ?_
  refine r_bipush X226 (pc' := 510) (v := (9 : Int32)) at_508 rfl rfl ?_
  refine r_iadd X226 (pc' := 511) (z := s9) at_510 hs9 rfl ?_
  refine r_callS X226 (pc' := 514) at_511 (con_d l Z a0 hw b14 s9 g (i + 9) h100 n0 X226.sz Ag ks9 (by omega) (H2 _ (by omega) (by omega))) (wd hw 15 rfl) (wd hw 16 rfl) (wd hw 12 rfl) (wd hw 17 rfl) (by decide) (argsL := [(.ref b14), (.int s9)]) (rest := [(.long m9)]) (W := 2) rfl rfl pd_digit rfl rfl (by decide) (by decide) (by decide) (by decide) rfl (fun v228 T229 h230 X231 QQ232 => ?_)
  obtain ⟨⟨e9, rfl, he9⟩, rfl⟩ := QQ232
  show Run p e below _ _ (mkF m 514 #[.val (.long p1), .second, .val (.int p2), .val (.long vv), .second, .val (.int oo), .val (.ref b14), .val (.int (1 : Int32)), .val (.long b9), .second] [(.long e9), (.long m9)])
  rw [d0 9 (by decide)] at he9
  obtain ⟨b10, hb10⟩ : ∃ z, m9 + e9 = z := ⟨_, rfl⟩
  have kb10 : b10.toInt = ((V / 10 ^ 1 : Nat) : Int) := by rw [← hb10, Jvm.Kit.i64_add (by omega) (by omega), km9, he9]; omega
  obtain ⟨s10, hs10⟩ : ∃ z, oo + (10 : Int32) = z := ⟨_, rfl⟩
  have ks10 : s10.toInt = ((i + 10 : Nat) : Int) := by rw [← hs10, n_add hi (show (10 : Int32).toInt = 10 from rfl) (by omega) (by omega)]; omega
  refine r_ladd X231 (pc' := 515) (z := b10) at_514 hb10 rfl ?_
  refine r_lstore X231 (pc' := 517) (ls' := #[.val (.long p1), .second, .val (.int p2), .val (.long vv), .second, .val (.int oo), .val (.ref b14), .val (.int (1 : Int32)), .val (.long b10), .second]) at_515 rfl rfl ?_
  refine r_lload X231 (pc' := 519) at_517 rfl rfl ?_
  refine r_ldc2J X231 (pc' := 522) (v := (10 : Int64)) at_519 (wd hw 14 rfl) rfl ?_
  obtain ⟨m10, hm10⟩ : ∃ z, b10 * (10 : Int64) = z := ⟨_, rfl⟩
  have km10 : m10.toInt = ((V / 10 ^ 1 : Nat) : Int) * 10 := by rw [← hm10, Jvm.Kit.i64_mul (by rw [kb10, own_l10]; omega) (by rw [kb10, own_l10]; omega), kb10]; rfl
  refine r_lmul X231 (pc' := 523) (z := m10) at_522 hm10 rfl ?_
  refine r_aload X231 (pc' := 525) at_523 rfl rfl ?_
  refine r_iload X231 (pc' := 527) at_525 rfl rfl ?_
  refine r_bipush X231 (pc' := 529) (v := (10 : Int32)) at_527 rfl rfl ?_
  refine r_iadd X231 (pc' := 530) (z := s10) at_529 hs10 rfl ?_
  refine r_callS X231 (pc' := 533) at_530 (con_d l Z a0 hw b14 s10 g (i + 10) h100 n0 X231.sz Ag ks10 (by omega) (H2 _ (by omega) (by omega))) (wd hw 15 rfl) (wd hw 16 rfl) (wd hw 12 rfl) (wd hw 17 rfl) (by decide) (argsL := [(.ref b14), (.int s10)]) (rest := [(.long m10)]) (W := 2) rfl rfl pd_digit rfl rfl (by decide) (by decide) (by decide) (by decide) rfl (fun v233 T234 h235 X236 QQ237 => ?_)
  obtain ⟨⟨e10, rfl, he10⟩, rfl⟩ := QQ237
  show Run p e below _ _ (mkF m 533 #[.val (.long p1), .second, .val (.int p2), .val (.long vv), .second, .val (.int oo), .val (.ref b14), .val (.int (1 : Int32)), .val (.long b10), .second] [(.long e10), (.long m10)])
  rw [d0 10 (by decide)] at he10
  obtain ⟨b11, hb11⟩ : ∃ z, m10 + e10 = z := ⟨_, rfl⟩
  have kb11 : b11.toInt = ((V / 10 ^ 0 : Nat) : Int) := by rw [← hb11, Jvm.Kit.i64_add (by omega) (by omega), km10, he10]; omega
  have lc : XT.cmpL b11 vv = 0 := by
    have : b11 = vv := Int64.toInt_inj.mp (by rw [kb11, hV]; simp)
    rw [this]; simp [XT.cmpL]
  refine r_ladd X236 (pc' := 534) (z := b11) at_533 hb11 rfl ?_
  refine r_lstore X236 (pc' := 536) (ls' := #[.val (.long p1), .second, .val (.int p2), .val (.long vv), .second, .val (.int oo), .val (.ref b14), .val (.int (1 : Int32)), .val (.long b11), .second]) at_534 rfl rfl ?_
  refine r_iload X236 (pc' := 538) at_536 rfl rfl ?_
  refine r_ifN X236 (pc2 := 541) at_538 (by decide) rfl (a := 1) (b := 0) rfl rfl (show ¬ (1 = 0) from (by decide)) ?_
  refine r_lload X236 (pc' := 543) at_541 rfl rfl ?_
  refine r_lloadN X236 (pc' := 544) at_543 rfl rfl ?_
  refine r_lcmp X236 (pc' := 545) (z := (0 : Int32)) at_544 lc rfl ?_
  refine r_ifN X236 (pc2 := 548) at_545 (by decide) rfl (a := 0) (b := 0) rfl rfl (show ¬ (¬ 0 = 0) from (by decide)) ?_
  refine r_iconst X236 (pc' := 549) (v := (1 : Int32)) at_548 rfl rfl ?_
  refine r_goto X236 (pc' := 553) at_549 (by decide) (by decide) ?_
  exact r_retN X236 (by simp) at_553 (z := (1 : Int32)) (w := (1 : Int32)) rfl rfl (by decide) (by decide)
set_option maxRecDepth 65536 in
set_option maxHeartbeats 40000000 in
theorem comes_1 {Post : Tables → Env → Array Value → State → Outcome → State → Prop} (hpost : ∀ tb e args s v u, (limb_1_1.after args s (.returned v) u = true ∧ limb_1_2.after args s (.returned v) u = true ∧ True) → FrameEnd s (.returned v) u (Jvm.fieldLocs frame_1_writes args s ++ Jvm.arrayLocs frame_1_arrays args s ++ Jvm.staticLocs frame_1_statics s) 16 128 → Post tb e args s (.returned v) u) :
    ArmFor flags0 classFile x code maxLocals ret World_1 tables_1 room_1 Calls_1 rest_1 Pre_1 Post := by
  intro l hfl _ _ p e ha hc hk s m args below hf hA hF happ hP
  obtain ⟨hcalls, hrest, hpre⟩ := hP
  obtain ⟨-, -, -, hnamed, -, -, -, hat⟩ := (Spec.applies_iff hf).mp happ
  obtain ⟨hg, hn⟩ := and_e (Cond.before_iff.mp (show (Jvm.Cond.and given_1 narrow_1).before args s = true from hpre))
  obtain ⟨gc, gr0⟩ := and_e hg
  obtain ⟨gv0, gr1⟩ := and_e gr0
  obtain ⟨w0, w1, rfl⟩ : ∃ w0 w1 : Value, args = #[w0, w1] := by
    have hs : args.size = 2 := by simpa [Cond.value, given_1] using gc
    obtain ⟨L⟩ := args
    match L, hs with
    | [w0, w1], _ => exact ⟨w0, w1, rfl⟩
  have hw := fun d (hd : d ∈ tables_1) => atoms_spec (ws := Jvm.Cond.code x code maxLocals ret :: tables_1) hat d (List.mem_cons_of_mem _ hd)
  obtain ⟨i0, ei0⟩ := isL_v gv0
  obtain rfl : w0 = (.long i0) := Option.some.inj ei0
  obtain ⟨i1, ei1⟩ := is_v gr1
  obtain rfl : w1 = (.int i1) := Option.some.inj ei1
  obtain ⟨n, o, h1, h2, h3, _, L, rfl, ⟨rfl, -, N⟩, hq⟩ := con_law l s _ hw i0 i1 s.heap s.heap.size (Nat.le_refl _) tables_1 p e ha hc hk s m _ below hf ((Spec.applies_iff_loose hf).mp happ).1 ⟨rfl, State.Warmed39.refl s, rfl⟩ trivial
  refine ⟨n, _, h1, h2, h3, hpost _ _ _ _ _ _ ⟨Cond.after_iff.mpr rfl, Cond.after_iff.mpr (eq_i res_at (Term.int_eval (1)) rfl), trivial⟩ ⟨hq.1, hq.2.1, (hq.2.2.sift fun y hy => Or.inr (N y hy)).mono (by decide) (by decide)⟩⟩
theorem main_1_1 : Claimed_1_1 := comes_1 fun _ _ _ _ _ _ h hF => ⟨h.1, hF⟩
theorem main_1_2 : Claimed_1_2 := comes_1 fun _ _ _ _ _ _ h hF => ⟨h.2.1, hF⟩
end Jvm.Pilot.@@N@@
namespace Jvm.Pilot.@@N@@
open Jvm Jvm.ClassFile Sem Op Lib Jvm.Free Jvm.Stand Jvm.Pilot.@@N@@.Jvm.D
/-! MADE BY PROGRAM (witnessworld.py) out of the Statement's table words and the real class files: 11 classes; the members and pool entries that the words name. The judged class is class 1, her method 1. -/
namespace start1
open Jvm.ClassFile
def u (s : String) : CpInfo := .utf8 (stringToUtf16 s)
/-- a pool by its gaps: so many unusable entries, then the entry; so many at the end -/
def gap : Nat → List CpInfo → List CpInfo
  | 0, r => r
  | n + 1, r => .unusable :: gap n r
def poolList (es : List (Nat × CpInfo)) (last : Nat) : List CpInfo := es.foldr (fun e r => gap e.1 (e.2 :: r)) (gap last [])
def pool (es : List (Nat × CpInfo)) (last : Nat) : Array CpInfo := ⟨poolList es last⟩
def fileOf (pool : Array CpInfo) (this : Nat) (attrs : Array Attribute := #[]) (ms : Array MethodInfo := #[]) (fl : Nat := 33) (sup : Nat := 0) (ifs : Array Nat := #[]) (fds : Array FieldInfo := #[]) : ClassFile where
  minorVersion := 0
  majorVersion := 65
  constantPool := pool
  accessFlags := fl
  thisClass := this
  superClass := sup
  interfaces := ifs
  fields := fds
  methods := ms
  attributes := attrs
def plain (name : String) (sup : Option ClassId) : Class where
  name := name
  kind := .ordinary
  loader := none
  accessFlags := 33
  super := sup
  interfaces := #[]
  cf := none
  fields := #[]
  methods := #[]
  instanceTypes := #[]
  staticTypes := #[]
  resolved := #[]
  callSites := []
  init := .initialized
  statics := none
  mirror := none

def pool0 : Array CpInfo := pool [(5, u "<init>"), (0, u "()V"), (1, .class_ 10), (1, u "java/lang/Object")] 113

def k0m0 : Method := { name := "<init>", desc := "()V", sig := { parameters := [], returnType := none }, accessFlags := 1, code := none }
/-- java/lang/Object -/
def k0 : Class := { plain "java/lang/Object" none with
  accessFlags := 33
  interfaces := #[]
  cf := some (fileOf pool0 8 #[] #[{ accessFlags := 1, nameIndex := 5, descriptorIndex := 6, attributes := #[] }] 33 0 #[] #[])
  fields := #[]
  methods := #[k0m0]
  instanceTypes := #[]
  staticTypes := #[]
  resolved := Array.replicate 124 none
  statics := none }

def pool1 : Array CpInfo := pool [(2, .class_ 4), (1, u "java/lang/Object"), (0, u "<init>"), (0, u "()V"), (2, .long 9223372036854775807), (1, .long 100000000000), (1, .integer 2147483647), (0, .methodref 15 16), (0, .class_ 17), (0, .nameAndType 18 19), (0, u "com/example/volkskern/volkskern/register/IdentificationNumber"), (0, u "writeDigits"), (0, u "(J[BI)V"), (0, .methodref 21 22), (0, .class_ 23), (0, .nameAndType 24 25), (0, u "com/example/volkskern/volkskern/register/IdentificationNumberWriteDigitsPinLaw"), (0, u "cell"), (0, u "([BII)Z"), (0, .long 10), (1, .methodref 21 29), (0, .nameAndType 30 31), (0, u "digit"), (0, u "([BI)J"), (2, u "law"), (0, u "(JI)Z")] 5

def k1m0 : Method := { name := "<init>", desc := "()V", sig := { parameters := [], returnType := none }, accessFlags := 1, code := none }
def k1c1 : Code := { maxStack := 5, maxLocals := 10, code := code, exceptionTable := #[], attributes := #[] }
def k1m1 : Method := { name := "law", desc := "(JI)Z", sig := { parameters := [.long, .int], returnType := some .boolean }, accessFlags := 9, code := some k1c1 }
def k1c2 : Code := { maxStack := 3, maxLocals := 3, code := method_3_code, exceptionTable := #[], attributes := #[] }
def k1m2 : Method := { name := "cell", desc := "([BII)Z", sig := { parameters := [(.array .byte), .int, .int], returnType := some .boolean }, accessFlags := 10, code := some k1c2 }
def k1c3 : Code := { maxStack := 2, maxLocals := 2, code := method_4_code, exceptionTable := #[], attributes := #[] }
def k1m3 : Method := { name := "digit", desc := "([BI)J", sig := { parameters := [(.array .byte), .int], returnType := some .long }, accessFlags := 10, code := some k1c3 }
/-- com/example/volkskern/volkskern/register/IdentificationNumberWriteDigitsPinLaw -/
def k1 : Class := { plain "com/example/volkskern/volkskern/register/IdentificationNumberWriteDigitsPinLaw" (some 0) with
  accessFlags := 49
  interfaces := #[]
  cf := some (fileOf pool1 21 #[] #[{ accessFlags := 1, nameIndex := 5, descriptorIndex := 6, attributes := #[] }, { accessFlags := 9, nameIndex := 34, descriptorIndex := 35, attributes := #[] }, { accessFlags := 10, nameIndex := 24, descriptorIndex := 25, attributes := #[] }, { accessFlags := 10, nameIndex := 30, descriptorIndex := 31, attributes := #[] }] 49 2 #[] #[])
  fields := #[]
  methods := #[k1m0, k1m1, k1m2, k1m3]
  instanceTypes := #[]
  staticTypes := #[]
  resolved := Array.replicate 41 none
  statics := none }

def pool2 : Array CpInfo := pool [(2, .class_ 4), (1, u "java/lang/Object"), (0, u "<init>"), (0, u "()V"), (0, .class_ 8), (0, u "java/lang/Record")] 13

def k2m0 : Method := { name := "<init>", desc := "()V", sig := { parameters := [], returnType := none }, accessFlags := 4, code := none }
/-- java/lang/Record -/
def k2 : Class := { plain "java/lang/Record" (some 0) with
  accessFlags := 1057
  interfaces := #[]
  cf := some (fileOf pool2 7 #[] #[{ accessFlags := 4, nameIndex := 5, descriptorIndex := 6, attributes := #[] }] 1057 2 #[] #[])
  fields := #[]
  methods := #[k2m0]
  instanceTypes := #[]
  staticTypes := #[]
  resolved := Array.replicate 22 none
  statics := none }

def pool3 : Array CpInfo := pool [(1, .class_ 2), (0, u "java/lang/Comparable"), (0, .class_ 4), (0, u "java/lang/Object")] 7

/-- java/lang/Comparable -/
def k3 : Class := { plain "java/lang/Comparable" (some 0) with
  accessFlags := 1537
  interfaces := #[]
  cf := some (fileOf pool3 1 #[] #[] 1537 3 #[] #[])
  fields := #[]
  methods := #[]
  instanceTypes := #[]
  staticTypes := #[]
  resolved := Array.replicate 12 none
  statics := none }

def pool4 : Array CpInfo := pool [(2, .class_ 4), (1, u "java/lang/Record"), (3, .class_ 10), (1, u "com/example/volkskern/volkskern/register/IdentificationNumber"), (0, u "digits"), (0, u "Ljava/lang/String;"), (31, u "writeDigits"), (0, u "(J[BI)V"), (23, .long 48), (1, .long 10), (86, .class_ 159), (0, u "java/lang/Comparable"), (0, u "FROM_2000"), (0, u "J"), (1, u "LONGEST_MONTH"), (0, u "I")] 52

def k4c0 : Code := { maxStack := 8, maxLocals := 7, code := prog_61_method_5_code, exceptionTable := #[], attributes := #[] }
def k4m0 : Method := { name := "writeDigits", desc := "(J[BI)V", sig := { parameters := [.long, (.array .byte), .int], returnType := none }, accessFlags := 8, code := some k4c0 }
/-- com/example/volkskern/volkskern/register/IdentificationNumber -/
def k4 : Class := { plain "com/example/volkskern/volkskern/register/IdentificationNumber" (some 2) with
  accessFlags := 48
  interfaces := #[3]
  cf := some (fileOf pool4 8 #[] #[{ accessFlags := 8, nameIndex := 44, descriptorIndex := 45, attributes := #[] }] 48 2 #[158] #[{ accessFlags := 18, nameIndex := 11, descriptorIndex := 12, attributes := #[] }, { accessFlags := 26, nameIndex := 160, descriptorIndex := 161, attributes := #[] }, { accessFlags := 26, nameIndex := 163, descriptorIndex := 164, attributes := #[] }])
  fields := #[{ name := "digits", type := (.object "java/lang/String"), accessFlags := 18, slot := 0, constantValue := 0 }, { name := "FROM_2000", type := .long, accessFlags := 26, slot := 0, constantValue := 0 }, { name := "LONGEST_MONTH", type := .int, accessFlags := 26, slot := 1, constantValue := 0 }]
  methods := #[k4m0]
  instanceTypes := #[(.object "java/lang/String")]
  staticTypes := #[.long, .int]
  resolved := Array.replicate 217 none
  statics := none }

def pool5 : Array CpInfo := pool [(1, u "java/lang/Cloneable"), (0, .class_ 1), (0, u "java/lang/Object"), (0, .class_ 3)] 3

/-- java/lang/Cloneable -/
def k5 : Class := { plain "java/lang/Cloneable" (some 0) with
  accessFlags := 1537
  interfaces := #[]
  cf := some (fileOf pool5 2 #[] #[] 1537 4 #[] #[])
  fields := #[]
  methods := #[]
  instanceTypes := #[]
  staticTypes := #[]
  resolved := Array.replicate 8 none
  statics := none }

def pool6 : Array CpInfo := pool [(1, u "java/io/Serializable"), (0, .class_ 1), (0, u "java/lang/Object"), (0, .class_ 3)] 3

/-- java/io/Serializable -/
def k6 : Class := { plain "java/io/Serializable" (some 0) with
  accessFlags := 1537
  interfaces := #[]
  cf := some (fileOf pool6 2 #[] #[] 1537 4 #[] #[])
  fields := #[]
  methods := #[]
  instanceTypes := #[]
  staticTypes := #[]
  resolved := Array.replicate 8 none
  statics := none }

/-- the primitive byte -/
def k7 : Class := { plain "byte" none with kind := .primitive 'B', accessFlags := 0x411 }
/-- [B -/
def k8 : Class := { plain "[B" (some 0) with kind := .array 7 .byte, interfaces := #[5, 6], accessFlags := 1041 }

/-- the primitive int -/
def k9 : Class := { plain "int" none with kind := .primitive 'I', accessFlags := 0x411 }
/-- [I -/
def k10 : Class := { plain "[I" (some 0) with kind := .array 9 .int, interfaces := #[5, 6], accessFlags := 1041 }

def heap : Heap := #[]
def classes : Array Class := #[k0, k1, k2, k3, k4, k5, k6, k7, k8, k9, k10]
def interned : List (Array UInt16 × Addr) := []
def slotsUsed : Nat := 0
def theMethod : MethodId := ⟨1, 1⟩
def args0 : Array Value := #[.long 5, .int 5]
def aboutOver (below : List Frame) : State where
  vm := { classes := classes, interned := interned.toArray }
  heap := heap
  slotsUsed := slotsUsed
  threads := #[{ frames := .invoking theMethod args0 :: below }]
def below0 : List Frame := [.native { method := ⟨0, 0⟩, args := #[] }]
def about1 : State := aboutOver below0
def p0 : Program := .bare "" "" ""
def e0 : Env := launch0.env 0 0 0
theorem w_frames : about1.frames = Frame.invoking theMethod args0 :: below0 := rfl
set_option maxRecDepth 65536 in
theorem w_args : argsFit about1.vm theMethod args0 = true := by decide +kernel
set_option maxRecDepth 65536 in
theorem w_heap : heapFits about1 = true := by decide +kernel
set_option maxRecDepth 65536 in
theorem w_runnable : about1.curStatus? = some .runnable := by decide +kernel
set_option maxRecDepth 65536 in
theorem w_alone : about1.alone = true := by decide +kernel
set_option maxRecDepth 65536 in
theorem w_named : about1.methodNamed? x = some theMethod := by decide +kernel
set_option maxRecDepth 65536 in
theorem w_hears : about1.hears theMethod below0 = true := by decide +kernel
set_option maxRecDepth 65536 in
theorem w_ripe : about1.ripe theMethod args0 below0 = true := by decide +kernel
theorem w_running : about1.status = .running := rfl
set_option maxRecDepth 65536 in
theorem w_room : about1.hasRoom e0.platform room_1 = true :=
  launch0.hasRoom_least _ room_1 (by decide +kernel) (by decide +kernel) (by decide +kernel) (by decide +kernel) (by decide +kernel) (by decide +kernel)
theorem allAtoms_all (ts : List Jvm.Cond) (a : Array Jvm.Value) (st : Jvm.State) : (allAtoms ts).before a st = ts.all (fun c => c.before a st) := by
  induction ts with
  | nil => rfl
  | cons c t ih =>
    show (Jvm.Cond.and c (allAtoms t)).before a st = _
    rw [Jvm.Cond.before_and, ih, List.all_cons]
def words1 : List Jvm.Cond := Jvm.Cond.code x code maxLocals ret :: tables_1
/-- a 'code' word, met by the world's own term for the bytes: nothing is compared byte by byte -/
theorem code_word {y : MethodName} {bytes : ByteArray} {mx : Nat} {rt : Option FieldType} {a : Array Value} {s : State} {m : MethodId} {meth : Method} {c : Code} (h1 : s.methodNamed? y = some m) (h2 : s.vm.method? m = some meth) (h3 : meth.code = some c) (h4 : c.code = bytes)
    (h5 : (c.maxLocals == mx && c.exceptionTable.isEmpty && decide (c.maxStack ≤ mostOperands) && decide (meth.sig.returnType = rt) && !meth.locks && decide (parseMethodDescriptor y.desc = some meth.sig)) = true) : (Jvm.Cond.code y bytes mx rt).before a s = true := by
  simp only [Bool.and_eq_true, beq_iff_eq, Bool.not_eq_true', decide_eq_true_eq] at h5
  obtain ⟨⟨⟨⟨⟨g1, g2⟩, g3⟩, g4⟩, g5⟩, g6⟩ := h5
  simp [Cond.before, Cond.holds, Cond.value, h1, h2, h3, h4, g1, g2, g3, g4, g5, g6]
def isCode : Jvm.Cond → Bool
  | .code _ _ _ _ => true
  | _ => false
theorem all_split {L : List Jvm.Cond} {P : Jvm.Cond → Bool} (h1 : L.all (fun c => isCode c || P c) = true) (h2 : ∀ c ∈ L.filter isCode, P c = true) : L.all P = true := by
  refine List.all_eq_true.mpr fun c hc => ?_
  have h := List.all_eq_true.mp h1 c hc
  rcases Bool.eq_false_or_eq_true (isCode c) with hi | hi
  · exact h2 c (List.mem_filter.mpr ⟨hc, hi⟩)
  · simpa [hi] using h
set_option maxRecDepth 65536 in
theorem w_c0 : (Jvm.Cond.code x code maxLocals ret).before args0 about1 = true := code_word (m := ⟨1, 1⟩) (meth := k1m1) (c := k1c1) (by decide +kernel) rfl rfl rfl (by decide +kernel)
set_option maxRecDepth 65536 in
theorem w_c1 : (Jvm.Cond.code ({ cls := "com/example/volkskern/volkskern/register/IdentificationNumber", name := "writeDigits", desc := "(J[BI)V" } : Jvm.MethodName) prog_61_method_5_code (7 : Nat) (Option.none : Option Jvm.ClassFile.FieldType)).before args0 about1 = true := code_word (m := ⟨4, 0⟩) (meth := k4m0) (c := k4c0) (by decide +kernel) rfl rfl rfl (by decide +kernel)
set_option maxRecDepth 65536 in
theorem w_c2 : (Jvm.Cond.code ({ cls := "com/example/volkskern/volkskern/register/IdentificationNumberWriteDigitsPinLaw", name := "cell", desc := "([BII)Z" } : Jvm.MethodName) method_3_code (3 : Nat) (Option.some Jvm.ClassFile.FieldType.boolean)).before args0 about1 = true := code_word (m := ⟨1, 2⟩) (meth := k1m2) (c := k1c2) (by decide +kernel) rfl rfl rfl (by decide +kernel)
set_option maxRecDepth 65536 in
theorem w_c3 : (Jvm.Cond.code ({ cls := "com/example/volkskern/volkskern/register/IdentificationNumberWriteDigitsPinLaw", name := "digit", desc := "([BI)J" } : Jvm.MethodName) method_4_code (2 : Nat) (Option.some Jvm.ClassFile.FieldType.long)).before args0 about1 = true := code_word (m := ⟨1, 3⟩) (meth := k1m3) (c := k1c3) (by decide +kernel) rfl rfl rfl (by decide +kernel)
def codes1 : List Jvm.Cond := [Jvm.Cond.code x code maxLocals ret, Jvm.Cond.code ({ cls := "com/example/volkskern/volkskern/register/IdentificationNumber", name := "writeDigits", desc := "(J[BI)V" } : Jvm.MethodName) prog_61_method_5_code (7 : Nat) (Option.none : Option Jvm.ClassFile.FieldType), Jvm.Cond.code ({ cls := "com/example/volkskern/volkskern/register/IdentificationNumberWriteDigitsPinLaw", name := "cell", desc := "([BII)Z" } : Jvm.MethodName) method_3_code (3 : Nat) (Option.some Jvm.ClassFile.FieldType.boolean), Jvm.Cond.code ({ cls := "com/example/volkskern/volkskern/register/IdentificationNumberWriteDigitsPinLaw", name := "digit", desc := "([BI)J" } : Jvm.MethodName) method_4_code (2 : Nat) (Option.some Jvm.ClassFile.FieldType.long)]
set_option maxRecDepth 65536 in
theorem codes_eq : words1.filter isCode = codes1 := rfl
theorem w_codes : ∀ c ∈ words1.filter isCode, c.before args0 about1 = true := by
  rw [codes_eq]
  intro c hc
  simp only [codes1, List.mem_cons, List.not_mem_nil, or_false] at hc
  rcases hc with rfl | rfl | rfl | rfl
  · exact w_c0
  · exact w_c1
  · exact w_c2
  · exact w_c3
set_option maxRecDepth 65536 in
theorem w_t1 : words1.all (fun c => isCode c || c.before args0 about1) = true := by decide +kernel
theorem w_tables : (allAtoms (Jvm.Cond.code x code maxLocals ret :: tables_1)).before args0 about1 = true := by
  rw [allAtoms_all]
  show words1.all (fun c => c.before args0 about1) = true
  refine all_split ?_ w_codes
  rw [w_t1]
set_option maxRecDepth 65536 in
theorem w_case : (Jvm.Cond.and given_1 narrow_1).before args0 about1 = true := by decide +kernel
theorem w_applies : (headSpec (Jvm.Cond.code x code maxLocals ret :: tables_1) room_1).applies x e0.platform about1 = true :=
  (Spec.applies_iff w_frames).mpr ⟨w_running, w_runnable, w_alone, w_named, w_hears, w_ripe, w_room, w_tables⟩
theorem atStart : AtStart classFile x code maxLocals ret World_1 tables_1 room_1 Calls_1 rest_1 Pre_1 launch0 p0 e0 about1 theMethod args0 below0 :=
  ⟨lists_1, trivial, launch0.admits_env _ _ _, launch0.least_env, fairChoices_fair.cas, fairChoices_fair.clock, w_frames, w_args, w_heap, w_applies, trivial, trivial, w_case⟩
end start1
theorem witness_1 : WitnessClaimed_1 := ⟨start1.p0, start1.e0, start1.about1, start1.theMethod, start1.args0, start1.below0, start1.atStart⟩
end Jvm.Pilot.@@N@@
