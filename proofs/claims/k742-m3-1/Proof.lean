import JvmDerived
import JvmDerived.Pilot.@@N@@Statement
import JvmDerived.Pilot.@@N@@Code
set_option linter.unusedVariables false
set_option linter.unusedSimpArgs false
namespace Jvm.Pilot.@@N@@
namespace W
open Jvm Jvm.ClassFile Sem Op Lib Jvm.Free Jvm.Stand Jvm.LawKit Jvm.RoadKit Bundle
/-- from U the run comes to an end that says G -/
def Go (tb : Tables) (e : Env) (below : List Frame) (G : Outcome → State → Prop) (U : State) : Prop := ∃ s₂ o, Steps tb e below U s₂ ∧ s₂.status = .running ∧ Ended s₂ below o ∧ G o s₂
theorem Go.via {tb : Tables} {e : Env} {below : List Frame} {G : Outcome → State → Prop} {U V : State} (f : ∀ t, Steps tb e below V t → Steps tb e below U t) (k : Go tb e below G V) : Go tb e below G U := by
  obtain ⟨s₂, o, h1, h⟩ := k; exact ⟨s₂, o, f _ h1, h⟩
theorem Go.tr {tb : Tables} {e : Env} {below : List Frame} {G : Outcome → State → Prop} {U V : State} (f : Steps tb e below U V) (k : Go tb e below G V) : Go tb e below G U := by
  obtain ⟨s₂, o, h1, h⟩ := k; exact ⟨s₂, o, f.trans h1, h⟩
/-- what a comparison of two ints says -/
abbrev cv (cd : ClassFile.Cond) (a b : Int32) : Prop := match cd with
  | .eq => a = b
  | .ne => ¬ a = b
  | .lt => a < b
  | .ge => ¬ a < b
  | .gt => b < a
  | .le => ¬ b < a
theorem cvY {cd : ClassFile.Cond} {a b : Int32} (q : cv cd a b) : if_icmp.holds cd a b = true := by
  cases cd
  · exact (teq q).1
  · exact (feq q).2
  · exact (tlt q).1
  · exact (flt q).2.1
  · exact (tlt q).2.2.1
  · exact (flt q).2.2.2
theorem cvN {cd : ClassFile.Cond} {a b : Int32} (q : ¬ cv cd a b) : if_icmp.holds cd a b = false := by
  cases cd
  · exact (feq q).1
  · exact (teq (Decidable.byContradiction q)).2
  · exact (flt q).1
  · exact (tlt (Decidable.byContradiction q)).2.1
  · exact (flt q).2.2.1
  · exact (tlt (Decidable.byContradiction q)).2.2.2
theorem cvD (cd : ClassFile.Cond) (a b : Int32) : cv cd a b ∨ ¬ cv cd a b := Classical.em _
abbrev Q0 (p : Program) (T : State) (m : MethodId) (c : Code) (below : List Frame) (code : ByteArray) : Prop := At T m c below ∧ p.tables.exec = Jvm.exec ∧ c.code = code
theorem catR {v : Value} (h : v.isRef = true) : v.category = 1 := by cases v <;> first | rfl | cases h
theorem stR {ls ls2 : Array Slot} {k : Nat} {v : Value} {o : Slot} (hv : v.isRef = true) (hold : ls[k]? = some o) (ho : One o) (h2 : ls.setIfInBounds k (.val v) = ls2) : storeLocals ls k v = some ls2 := by
  rw [← h2]; exact Jvm.Free.XS.store1 hold ho (catR hv)
section Plain
variable {p : Program} {e : Env} {below : List Frame} {G : Outcome → State → Prop} {T : State} {m : MethodId} {c : Code} {code : ByteArray} {pc pc1 pc2 : Nat} {ls ls2 : Array Slot} {st : List Value}

theorem g_iloadN (q : Q0 p T m c below code) {k : Fin 4} {v : Int32} (hd : decode code pc = .ok (.iload_n k, 1)) (hl : ls[k.val]? = some (.val (.int v))) (hp : pc + 1 = pc1) (K : Go p.tables e below G (T.setTop (mkF m pc1 ls (.int v :: st)))) : Go p.tables e below G (T.setTop (mkF m pc ls st)) := by
  subst hp; exact Go.via (fun _ k => Jvm.Free.XS.iloadN q.1 q.2.1 rfl (hb q.2.2 hd) hl k) K
theorem g_aloadN (q : Q0 p T m c below code) {k : Fin 4} {v : Value} (hd : decode code pc = .ok (.aload_n k, 1)) (hl : ls[k.val]? = some (.val v)) (hv : v.isRef = true) (hp : pc + 1 = pc1) (K : Go p.tables e below G (T.setTop (mkF m pc1 ls (v :: st)))) : Go p.tables e below G (T.setTop (mkF m pc ls st)) := by
  subst hp; exact Go.via (fun _ k => Jvm.Free.XS.aloadN q.1 q.2.1 rfl (hb q.2.2 hd) hl hv k) K
theorem g_istoreN (q : Q0 p T m c below code) {k : Fin 4} {v : Int32} (hd : decode code pc = .ok (.istore_n k, 1)) (hl : storeLocals ls k.val (.int v) = some ls2) (hp : pc + 1 = pc1) (K : Go p.tables e below G (T.setTop (mkF m pc1 ls2 st))) : Go p.tables e below G (T.setTop (mkF m pc ls (.int v :: st))) := by
  subst hp; exact Go.via (fun _ k => Jvm.Free.XS.istoreN q.1 q.2.1 rfl (hb q.2.2 hd) rfl hl k) K
theorem g_astoreN (q : Q0 p T m c below code) {k : Fin 4} {v : Value} (hd : decode code pc = .ok (.astore_n k, 1)) (hv : v.isRef = true) (hl : storeLocals ls k.val v = some ls2) (hp : pc + 1 = pc1) (K : Go p.tables e below G (T.setTop (mkF m pc1 ls2 st))) : Go p.tables e below G (T.setTop (mkF m pc ls (v :: st))) := by
  subst hp; exact Go.via (fun _ k => Jvm.Free.XS.astoreN q.1 q.2.1 rfl (hb q.2.2 hd) rfl hv hl k) K
theorem g_lloadN (q : Q0 p T m c below code) {k : Fin 4} {v : Int64} (hd : decode code pc = .ok (.lload_n k, 1)) (hl : ls[k.val]? = some (.val (.long v))) (hp : pc + 1 = pc1) (K : Go p.tables e below G (T.setTop (mkF m pc1 ls (.long v :: st)))) : Go p.tables e below G (T.setTop (mkF m pc ls st)) := by
  subst hp; exact Go.via (fun _ k => Jvm.Free.XT.lloadN q.1 q.2.1 rfl (hb q.2.2 hd) hl k) K
theorem g_lstoreN (q : Q0 p T m c below code) {k : Fin 4} {v : Int64} (hd : decode code pc = .ok (.lstore_n k, 1)) (hl : storeLocals ls k.val (.long v) = some ls2) (hp : pc + 1 = pc1) (K : Go p.tables e below G (T.setTop (mkF m pc1 ls2 st))) : Go p.tables e below G (T.setTop (mkF m pc ls (.long v :: st))) := by
  subst hp; exact Go.via (fun _ k => Jvm.Free.XT.lstoreN q.1 q.2.1 rfl (hb q.2.2 hd) rfl hl k) K
theorem g_iload (q : Q0 p T m c below code) {k : Nat} {v : Int32} (hd : decode code pc = .ok (.iload k, 2)) (hl : ls[k]? = some (.val (.int v))) (hp : pc + 2 = pc1) (K : Go p.tables e below G (T.setTop (mkF m pc1 ls (.int v :: st)))) : Go p.tables e below G (T.setTop (mkF m pc ls st)) := by
  subst hp; exact Go.via (fun _ k => Jvm.Free.XS.iload q.1 q.2.1 rfl (hb q.2.2 hd) hl k) K
theorem g_aload (q : Q0 p T m c below code) {k : Nat} {v : Value} (hd : decode code pc = .ok (.aload k, 2)) (hl : ls[k]? = some (.val v)) (hv : v.isRef = true) (hp : pc + 2 = pc1) (K : Go p.tables e below G (T.setTop (mkF m pc1 ls (v :: st)))) : Go p.tables e below G (T.setTop (mkF m pc ls st)) := by
  subst hp; exact Go.via (fun _ k => Jvm.Free.XS.aload q.1 q.2.1 rfl (hb q.2.2 hd) hl hv k) K
theorem g_istore (q : Q0 p T m c below code) {k : Nat} {v : Int32} (hd : decode code pc = .ok (.istore k, 2)) (hl : storeLocals ls k (.int v) = some ls2) (hp : pc + 2 = pc1) (K : Go p.tables e below G (T.setTop (mkF m pc1 ls2 st))) : Go p.tables e below G (T.setTop (mkF m pc ls (.int v :: st))) := by
  subst hp; exact Go.via (fun _ k => Jvm.Free.XS.istore q.1 q.2.1 rfl (hb q.2.2 hd) rfl hl k) K
theorem g_astore (q : Q0 p T m c below code) {k : Nat} {v : Value} (hd : decode code pc = .ok (.astore k, 2)) (hv : v.isRef = true) (hl : storeLocals ls k v = some ls2) (hp : pc + 2 = pc1) (K : Go p.tables e below G (T.setTop (mkF m pc1 ls2 st))) : Go p.tables e below G (T.setTop (mkF m pc ls (v :: st))) := by
  subst hp; exact Go.via (fun _ k => Jvm.Free.XS.astore q.1 q.2.1 rfl (hb q.2.2 hd) rfl hv hl k) K
theorem g_lload (q : Q0 p T m c below code) {k : Nat} {v : Int64} (hd : decode code pc = .ok (.lload k, 2)) (hl : ls[k]? = some (.val (.long v))) (hp : pc + 2 = pc1) (K : Go p.tables e below G (T.setTop (mkF m pc1 ls (.long v :: st)))) : Go p.tables e below G (T.setTop (mkF m pc ls st)) := by
  subst hp; exact Go.via (fun _ k => Jvm.Free.XT.lload q.1 q.2.1 rfl (hb q.2.2 hd) hl k) K
theorem g_lstore (q : Q0 p T m c below code) {k : Nat} {v : Int64} (hd : decode code pc = .ok (.lstore k, 2)) (hl : storeLocals ls k (.long v) = some ls2) (hp : pc + 2 = pc1) (K : Go p.tables e below G (T.setTop (mkF m pc1 ls2 st))) : Go p.tables e below G (T.setTop (mkF m pc ls (.long v :: st))) := by
  subst hp; exact Go.via (fun _ k => Jvm.Free.XT.lstore q.1 q.2.1 rfl (hb q.2.2 hd) rfl hl k) K
theorem g_iconst (q : Q0 p T m c below code) {i : Int} {v : Int32} (hd : decode code pc = .ok (.iconst i, 1)) (hv : Int32.ofInt i = v) (hp : pc + 1 = pc1) (K : Go p.tables e below G (T.setTop (mkF m pc1 ls (.int v :: st)))) : Go p.tables e below G (T.setTop (mkF m pc ls st)) := by
  subst hp; exact Go.via (fun _ k => Jvm.Free.XS.iconst q.1 q.2.1 rfl (hb q.2.2 hd) (hv ▸ k)) K
theorem g_bipush (q : Q0 p T m c below code) {i : Int} {v : Int32} (hd : decode code pc = .ok (.bipush i, 2)) (hv : (Int8.ofInt i).toInt32 = v) (hp : pc + 2 = pc1) (K : Go p.tables e below G (T.setTop (mkF m pc1 ls (.int v :: st)))) : Go p.tables e below G (T.setTop (mkF m pc ls st)) := by
  subst hp; exact Go.via (fun _ k => Jvm.Free.XS.bipush q.1 q.2.1 rfl (hb q.2.2 hd) (hv ▸ k)) K
theorem g_sipush (q : Q0 p T m c below code) {i : Int} {v : Int32} (hd : decode code pc = .ok (.sipush i, 3)) (hv : (Int16.ofInt i).toInt32 = v) (hp : pc + 3 = pc1) (K : Go p.tables e below G (T.setTop (mkF m pc1 ls (.int v :: st)))) : Go p.tables e below G (T.setTop (mkF m pc ls st)) := by
  subst hp; exact Go.via (fun _ k => Jvm.Free.XS.sipush q.1 q.2.1 rfl (hb q.2.2 hd) (hv ▸ k)) K
theorem g_null (q : Q0 p T m c below code)  (hd : decode code pc = .ok (.aconst_null, 1))  (hp : pc + 1 = pc1) (K : Go p.tables e below G (T.setTop (mkF m pc1 ls (.null :: st)))) : Go p.tables e below G (T.setTop (mkF m pc ls st)) := by
  subst hp; exact Go.via (fun _ k => Jvm.Free.XS.aconstNull q.1 q.2.1 rfl (hb q.2.2 hd) k) K
theorem g_iadd (q : Q0 p T m c below code) {x y : Int32} (hd : decode code pc = .ok (.iadd, 1))  (hp : pc + 1 = pc1) (K : Go p.tables e below G (T.setTop (mkF m pc1 ls (.int (x + y) :: st)))) : Go p.tables e below G (T.setTop (mkF m pc ls (.int y :: .int x :: st))) := by
  subst hp; exact Go.via (fun _ k => Jvm.Free.XS.iadd q.1 q.2.1 rfl (hb q.2.2 hd) rfl k) K
theorem g_isub (q : Q0 p T m c below code) {x y : Int32} (hd : decode code pc = .ok (.isub, 1))  (hp : pc + 1 = pc1) (K : Go p.tables e below G (T.setTop (mkF m pc1 ls (.int (x - y) :: st)))) : Go p.tables e below G (T.setTop (mkF m pc ls (.int y :: .int x :: st))) := by
  subst hp; exact Go.via (fun _ k => Jvm.Free.XS.isub q.1 q.2.1 rfl (hb q.2.2 hd) rfl k) K
theorem g_iand (q : Q0 p T m c below code) {x y : Int32} (hd : decode code pc = .ok (.iand, 1))  (hp : pc + 1 = pc1) (K : Go p.tables e below G (T.setTop (mkF m pc1 ls (.int (x &&& y) :: st)))) : Go p.tables e below G (T.setTop (mkF m pc ls (.int y :: .int x :: st))) := by
  subst hp; exact Go.via (fun _ k => Jvm.Free.XS.iand q.1 q.2.1 rfl (hb q.2.2 hd) rfl k) K
theorem g_imul (q : Q0 p T m c below code) {x y : Int32} (hd : decode code pc = .ok (.imul, 1))  (hp : pc + 1 = pc1) (K : Go p.tables e below G (T.setTop (mkF m pc1 ls (.int (x * y) :: st)))) : Go p.tables e below G (T.setTop (mkF m pc ls (.int y :: .int x :: st))) := by
  subst hp; exact Go.via (fun _ k => Jvm.Free.XS.imul q.1 q.2.1 rfl (hb q.2.2 hd) rfl k) K
theorem g_irem (q : Q0 p T m c below code) {x y : Int32} (hd : decode code pc = .ok (.irem, 1)) (hy : y ≠ 0) (hp : pc + 1 = pc1) (K : Go p.tables e below G (T.setTop (mkF m pc1 ls (.int (x - (x / y) * y) :: st)))) : Go p.tables e below G (T.setTop (mkF m pc ls (.int y :: .int x :: st))) := by
  subst hp; exact Go.via (fun _ k => Jvm.Free.XS.irem q.1 q.2.1 rfl (hb q.2.2 hd) rfl hy k) K
theorem g_idiv (q : Q0 p T m c below code) {x y : Int32} (hd : decode code pc = .ok (.idiv, 1)) (hy : y ≠ 0) (hp : pc + 1 = pc1) (K : Go p.tables e below G (T.setTop (mkF m pc1 ls (.int (x / y) :: st)))) : Go p.tables e below G (T.setTop (mkF m pc ls (.int y :: .int x :: st))) := by
  subst hp; exact Go.via (fun _ k => Jvm.Free.XS.idiv q.1 q.2.1 rfl (hb q.2.2 hd) rfl hy k) K
theorem g_ineg (q : Q0 p T m c below code) {x : Int32} (hd : decode code pc = .ok (.ineg, 1))  (hp : pc + 1 = pc1) (K : Go p.tables e below G (T.setTop (mkF m pc1 ls (.int (-x) :: st)))) : Go p.tables e below G (T.setTop (mkF m pc ls (.int x :: st))) := by
  subst hp; exact Go.via (fun _ k => Jvm.Free.XS.ineg q.1 q.2.1 rfl (hb q.2.2 hd) rfl k) K
theorem g_ior (q : Q0 p T m c below code) {x y : Int32} (hd : decode code pc = .ok (.ior, 1))  (hp : pc + 1 = pc1) (K : Go p.tables e below G (T.setTop (mkF m pc1 ls (.int (x ||| y) :: st)))) : Go p.tables e below G (T.setTop (mkF m pc ls (.int y :: .int x :: st))) := by
  subst hp; exact Go.via (fun _ k => Jvm.Free.XT.ior q.1 q.2.1 rfl (hb q.2.2 hd) rfl k) K
theorem g_ixor (q : Q0 p T m c below code) {x y : Int32} (hd : decode code pc = .ok (.ixor, 1))  (hp : pc + 1 = pc1) (K : Go p.tables e below G (T.setTop (mkF m pc1 ls (.int (x ^^^ y) :: st)))) : Go p.tables e below G (T.setTop (mkF m pc ls (.int y :: .int x :: st))) := by
  subst hp; exact Go.via (fun _ k => Jvm.Free.XT.ixor q.1 q.2.1 rfl (hb q.2.2 hd) rfl k) K
theorem g_ishl (q : Q0 p T m c below code) {x y : Int32} (hd : decode code pc = .ok (.ishl, 1))  (hp : pc + 1 = pc1) (K : Go p.tables e below G (T.setTop (mkF m pc1 ls (.int (x <<< (y &&& 31)) :: st)))) : Go p.tables e below G (T.setTop (mkF m pc ls (.int y :: .int x :: st))) := by
  subst hp; exact Go.via (fun _ k => Jvm.Free.XT.ishl q.1 q.2.1 rfl (hb q.2.2 hd) rfl k) K
theorem g_ishr (q : Q0 p T m c below code) {x y : Int32} (hd : decode code pc = .ok (.ishr, 1))  (hp : pc + 1 = pc1) (K : Go p.tables e below G (T.setTop (mkF m pc1 ls (.int (x >>> (y &&& 31)) :: st)))) : Go p.tables e below G (T.setTop (mkF m pc ls (.int y :: .int x :: st))) := by
  subst hp; exact Go.via (fun _ k => Jvm.Free.XT.ishr q.1 q.2.1 rfl (hb q.2.2 hd) rfl k) K
theorem g_iushr (q : Q0 p T m c below code) {x y : Int32} (hd : decode code pc = .ok (.iushr, 1))  (hp : pc + 1 = pc1) (K : Go p.tables e below G (T.setTop (mkF m pc1 ls (.int (Jvm.Free.XT.ushr x y) :: st)))) : Go p.tables e below G (T.setTop (mkF m pc ls (.int y :: .int x :: st))) := by
  subst hp; exact Go.via (fun _ k => Jvm.Free.XT.iushr q.1 q.2.1 rfl (hb q.2.2 hd) rfl k) K
theorem g_i2b (q : Q0 p T m c below code) {x : Int32} (hd : decode code pc = .ok (.i2b, 1))  (hp : pc + 1 = pc1) (K : Go p.tables e below G (T.setTop (mkF m pc1 ls (.int (x.toInt8.toInt32) :: st)))) : Go p.tables e below G (T.setTop (mkF m pc ls (.int x :: st))) := by
  subst hp; exact Go.via (fun _ k => Jvm.Free.XT.i2b q.1 q.2.1 rfl (hb q.2.2 hd) rfl k) K
theorem g_i2c (q : Q0 p T m c below code) {x : Int32} (hd : decode code pc = .ok (.i2c, 1))  (hp : pc + 1 = pc1) (K : Go p.tables e below G (T.setTop (mkF m pc1 ls (.int (x.toUInt32.toUInt16.toUInt32.toInt32) :: st)))) : Go p.tables e below G (T.setTop (mkF m pc ls (.int x :: st))) := by
  subst hp; exact Go.via (fun _ k => Jvm.Free.XT.i2c q.1 q.2.1 rfl (hb q.2.2 hd) rfl k) K
theorem g_i2s (q : Q0 p T m c below code) {x : Int32} (hd : decode code pc = .ok (.i2s, 1))  (hp : pc + 1 = pc1) (K : Go p.tables e below G (T.setTop (mkF m pc1 ls (.int (x.toInt16.toInt32) :: st)))) : Go p.tables e below G (T.setTop (mkF m pc ls (.int x :: st))) := by
  subst hp; exact Go.via (fun _ k => Jvm.Free.XT.i2s q.1 q.2.1 rfl (hb q.2.2 hd) rfl k) K
theorem g_i2l (q : Q0 p T m c below code) {x : Int32} (hd : decode code pc = .ok (.i2l, 1))  (hp : pc + 1 = pc1) (K : Go p.tables e below G (T.setTop (mkF m pc1 ls (.long x.toInt64 :: st)))) : Go p.tables e below G (T.setTop (mkF m pc ls (.int x :: st))) := by
  subst hp; exact Go.via (fun _ k => Jvm.Free.XT.i2l q.1 q.2.1 rfl (hb q.2.2 hd) rfl k) K
theorem g_l2i (q : Q0 p T m c below code) {x : Int64} (hd : decode code pc = .ok (.l2i, 1))  (hp : pc + 1 = pc1) (K : Go p.tables e below G (T.setTop (mkF m pc1 ls (.int x.toInt32 :: st)))) : Go p.tables e below G (T.setTop (mkF m pc ls (.long x :: st))) := by
  subst hp; exact Go.via (fun _ k => Jvm.Free.XT.l2i q.1 q.2.1 rfl (hb q.2.2 hd) rfl k) K
theorem g_ladd (q : Q0 p T m c below code) {x y : Int64} (hd : decode code pc = .ok (.ladd, 1))  (hp : pc + 1 = pc1) (K : Go p.tables e below G (T.setTop (mkF m pc1 ls (.long (x + y) :: st)))) : Go p.tables e below G (T.setTop (mkF m pc ls (.long y :: .long x :: st))) := by
  subst hp; exact Go.via (fun _ k => Jvm.Free.XT.ladd q.1 q.2.1 rfl (hb q.2.2 hd) rfl k) K
theorem g_lsub (q : Q0 p T m c below code) {x y : Int64} (hd : decode code pc = .ok (.lsub, 1))  (hp : pc + 1 = pc1) (K : Go p.tables e below G (T.setTop (mkF m pc1 ls (.long (x - y) :: st)))) : Go p.tables e below G (T.setTop (mkF m pc ls (.long y :: .long x :: st))) := by
  subst hp; exact Go.via (fun _ k => Jvm.Free.XT.lsub q.1 q.2.1 rfl (hb q.2.2 hd) rfl k) K
theorem g_lmul (q : Q0 p T m c below code) {x y : Int64} (hd : decode code pc = .ok (.lmul, 1))  (hp : pc + 1 = pc1) (K : Go p.tables e below G (T.setTop (mkF m pc1 ls (.long (x * y) :: st)))) : Go p.tables e below G (T.setTop (mkF m pc ls (.long y :: .long x :: st))) := by
  subst hp; exact Go.via (fun _ k => Jvm.Free.XT.lmul q.1 q.2.1 rfl (hb q.2.2 hd) rfl k) K
theorem g_land (q : Q0 p T m c below code) {x y : Int64} (hd : decode code pc = .ok (.land, 1))  (hp : pc + 1 = pc1) (K : Go p.tables e below G (T.setTop (mkF m pc1 ls (.long (x &&& y) :: st)))) : Go p.tables e below G (T.setTop (mkF m pc ls (.long y :: .long x :: st))) := by
  subst hp; exact Go.via (fun _ k => Jvm.Free.XT.land q.1 q.2.1 rfl (hb q.2.2 hd) rfl k) K
theorem g_lor (q : Q0 p T m c below code) {x y : Int64} (hd : decode code pc = .ok (.lor, 1))  (hp : pc + 1 = pc1) (K : Go p.tables e below G (T.setTop (mkF m pc1 ls (.long (x ||| y) :: st)))) : Go p.tables e below G (T.setTop (mkF m pc ls (.long y :: .long x :: st))) := by
  subst hp; exact Go.via (fun _ k => Jvm.Free.XT.lor q.1 q.2.1 rfl (hb q.2.2 hd) rfl k) K
theorem g_lshl (q : Q0 p T m c below code) {x : Int64} {y : Int32} (hd : decode code pc = .ok (.lshl, 1))  (hp : pc + 1 = pc1) (K : Go p.tables e below G (T.setTop (mkF m pc1 ls (.long (x <<< (y.toInt64 &&& 63)) :: st)))) : Go p.tables e below G (T.setTop (mkF m pc ls (.int y :: .long x :: st))) := by
  subst hp; exact Go.via (fun _ k => Jvm.Free.XT.lshl q.1 q.2.1 rfl (hb q.2.2 hd) rfl k) K
theorem g_lshr (q : Q0 p T m c below code) {x : Int64} {y : Int32} (hd : decode code pc = .ok (.lshr, 1))  (hp : pc + 1 = pc1) (K : Go p.tables e below G (T.setTop (mkF m pc1 ls (.long (x >>> (y.toInt64 &&& 63)) :: st)))) : Go p.tables e below G (T.setTop (mkF m pc ls (.int y :: .long x :: st))) := by
  subst hp; exact Go.via (fun _ k => Jvm.Free.XT.lshr q.1 q.2.1 rfl (hb q.2.2 hd) rfl k) K
theorem g_lushr (q : Q0 p T m c below code) {x : Int64} {y : Int32} (hd : decode code pc = .ok (.lushr, 1))  (hp : pc + 1 = pc1) (K : Go p.tables e below G (T.setTop (mkF m pc1 ls (.long (Jvm.Free.XT.ushrL x y) :: st)))) : Go p.tables e below G (T.setTop (mkF m pc ls (.int y :: .long x :: st))) := by
  subst hp; exact Go.via (fun _ k => Jvm.Free.XT.lushr q.1 q.2.1 rfl (hb q.2.2 hd) rfl k) K
theorem g_lrem (q : Q0 p T m c below code) {x y : Int64} (hd : decode code pc = .ok (.lrem, 1)) (hy : y ≠ 0) (hp : pc + 1 = pc1) (K : Go p.tables e below G (T.setTop (mkF m pc1 ls (.long (x - (x / y) * y) :: st)))) : Go p.tables e below G (T.setTop (mkF m pc ls (.long y :: .long x :: st))) := by
  subst hp; exact Go.via (fun _ k => Jvm.Free.XT.lrem q.1 q.2.1 rfl (hb q.2.2 hd) rfl hy k) K
theorem g_lneg (q : Q0 p T m c below code) {x : Int64} (hd : decode code pc = .ok (.lneg, 1))  (hp : pc + 1 = pc1) (K : Go p.tables e below G (T.setTop (mkF m pc1 ls (.long (-x) :: st)))) : Go p.tables e below G (T.setTop (mkF m pc ls (.long x :: st))) := by
  subst hp; exact Go.via (fun _ k => Jvm.Free.XT.lneg q.1 q.2.1 rfl (hb q.2.2 hd) rfl k) K
theorem g_lcmp (q : Q0 p T m c below code) {x y : Int64} (hd : decode code pc = .ok (.lcmp, 1))  (hp : pc + 1 = pc1) (K : Go p.tables e below G (T.setTop (mkF m pc1 ls (.int (Jvm.Free.XT.cmpL x y) :: st)))) : Go p.tables e below G (T.setTop (mkF m pc ls (.long y :: .long x :: st))) := by
  subst hp; exact Go.via (fun _ k => Jvm.Free.XT.lcmp q.1 q.2.1 rfl (hb q.2.2 hd) rfl k) K
theorem g_lconst (q : Q0 p T m c below code) {i : Fin 2} {v : Int64} (hd : decode code pc = .ok (.lconst i, 1)) (hv : Int64.ofNat i.val = v) (hp : pc + 1 = pc1) (K : Go p.tables e below G (T.setTop (mkF m pc1 ls (.long v :: st)))) : Go p.tables e below G (T.setTop (mkF m pc ls st)) := by
  subst hp; exact Go.via (fun _ k => Jvm.Free.XT.lconst q.1 q.2.1 rfl (hb q.2.2 hd) (hv ▸ k)) K
theorem g_iinc (q : Q0 p T m c below code) {k : Nat} {i : Int} {v : Int32} (hd : decode code pc = .ok (.iinc k i, 3)) (hl : ls[k]? = some (.val (.int v))) (hl2 : storeLocals ls k (.int (v + Int32.ofInt i)) = some ls2) (hp : pc + 3 = pc1) (K : Go p.tables e below G (T.setTop (mkF m pc1 ls2 st))) : Go p.tables e below G (T.setTop (mkF m pc ls st)) := by
  subst hp; exact Go.via (fun _ k => Jvm.Free.XS.iinc q.1 q.2.1 rfl (hb q.2.2 hd) hl hl2 k) K
theorem g_dup (q : Q0 p T m c below code) {x : Value} (hd : decode code pc = .ok (.dup, 1)) (hc : x.category = 1) (hp : pc + 1 = pc1) (K : Go p.tables e below G (T.setTop (mkF m pc1 ls (x :: x :: st)))) : Go p.tables e below G (T.setTop (mkF m pc ls (x :: st))) := by
  subst hp; exact Go.via (fun _ k => Jvm.Free.XS.dup q.1 q.2.1 rfl (hb q.2.2 hd) rfl hc k) K
theorem g_pop (q : Q0 p T m c below code) {x : Value} (hd : decode code pc = .ok (.pop, 1)) (hc : x.category = 1) (hp : pc + 1 = pc1) (K : Go p.tables e below G (T.setTop (mkF m pc1 ls st))) : Go p.tables e below G (T.setTop (mkF m pc ls (x :: st))) := by
  subst hp; exact Go.via (fun _ k => Jvm.Free.XT.pop q.1 q.2.1 rfl (hb q.2.2 hd) rfl hc k) K
theorem g_dup2 (q : Q0 p T m c below code) {x y : Value} (hd : decode code pc = .ok (.dup2, 1)) (hc : x.category = 1) (hc2 : y.category = 1) (hp : pc + 1 = pc1) (K : Go p.tables e below G (T.setTop (mkF m pc1 ls (x :: y :: x :: y :: st)))) : Go p.tables e below G (T.setTop (mkF m pc ls (x :: y :: st))) := by
  subst hp; exact Go.via (fun _ k => Jvm.Free.XT.dup2 q.1 q.2.1 rfl (hb q.2.2 hd) rfl hc hc2 k) K
theorem g_dloadN (q : Q0 p T m c below code) {k : Fin 4} {v : UInt64} (hd : decode code pc = .ok (.dload_n k, 1)) (hl : ls[k.val]? = some (.val (.double v))) (hp : pc + 1 = pc1) (K : Go p.tables e below G (T.setTop (mkF m pc1 ls (.double v :: st)))) : Go p.tables e below G (T.setTop (mkF m pc ls st)) := by
  subst hp; exact Go.via (fun _ k => Jvm.Free.XS.dloadN q.1 q.2.1 rfl (hb q.2.2 hd) hl k) K
theorem g_dstoreN (q : Q0 p T m c below code) {k : Fin 4} {v : UInt64} (hd : decode code pc = .ok (.dstore_n k, 1)) (hl : storeLocals ls k.val (.double v) = some ls2) (hp : pc + 1 = pc1) (K : Go p.tables e below G (T.setTop (mkF m pc1 ls2 st))) : Go p.tables e below G (T.setTop (mkF m pc ls (.double v :: st))) := by
  subst hp; exact Go.via (fun _ k => Jvm.Free.XS.dstoreN q.1 q.2.1 rfl (hb q.2.2 hd) rfl hl k) K
theorem g_dload (q : Q0 p T m c below code) {k : Nat} {v : UInt64} (hd : decode code pc = .ok (.dload k, 2)) (hl : ls[k]? = some (.val (.double v))) (hp : pc + 2 = pc1) (K : Go p.tables e below G (T.setTop (mkF m pc1 ls (.double v :: st)))) : Go p.tables e below G (T.setTop (mkF m pc ls st)) := by
  subst hp; exact Go.via (fun _ k => Jvm.Free.XS.dload q.1 q.2.1 rfl (hb q.2.2 hd) hl k) K
theorem g_dstore (q : Q0 p T m c below code) {k : Nat} {v : UInt64} (hd : decode code pc = .ok (.dstore k, 2)) (hl : storeLocals ls k (.double v) = some ls2) (hp : pc + 2 = pc1) (K : Go p.tables e below G (T.setTop (mkF m pc1 ls2 st))) : Go p.tables e below G (T.setTop (mkF m pc ls (.double v :: st))) := by
  subst hp; exact Go.via (fun _ k => Jvm.Free.XS.dstore q.1 q.2.1 rfl (hb q.2.2 hd) rfl hl k) K
theorem g_dconst0 (q : Q0 p T m c below code)  (hd : decode code pc = .ok (.dconst 0, 1))  (hp : pc + 1 = pc1) (K : Go p.tables e below G (T.setTop (mkF m pc1 ls (.double 0 :: st)))) : Go p.tables e below G (T.setTop (mkF m pc ls st)) := by
  subst hp; exact Go.via (fun _ k => Jvm.Free.XS.dconst0 q.1 q.2.1 rfl (hb q.2.2 hd) (by decide +kernel) k) K
theorem g_i2d (q : Q0 p T m c below code) {x : Int32} (hd : decode code pc = .ok (.i2d, 1))  (hp : pc + 1 = pc1) (K : Go p.tables e below G (T.setTop (mkF m pc1 ls (.double (FP.i2d x) :: st)))) : Go p.tables e below G (T.setTop (mkF m pc ls (.int x :: st))) := by
  subst hp; exact Go.via (fun _ k => Jvm.Free.XS.i2dS q.1 q.2.1 rfl (hb q.2.2 hd) rfl rfl k) K
theorem g_l2d (q : Q0 p T m c below code) {x : Int64} (hd : decode code pc = .ok (.l2d, 1))  (hp : pc + 1 = pc1) (K : Go p.tables e below G (T.setTop (mkF m pc1 ls (.double (FP.l2d x) :: st)))) : Go p.tables e below G (T.setTop (mkF m pc ls (.long x :: st))) := by
  subst hp; exact Go.via (fun _ k => Jvm.Free.XS.l2dS q.1 q.2.1 rfl (hb q.2.2 hd) rfl rfl k) K
theorem g_dcmp (q : Q0 p T m c below code) {o : CmpOp} {x y : UInt64} (hd : decode code pc = .ok (.dcmp o, 1))  (hp : pc + 1 = pc1) (K : Go p.tables e below G (T.setTop (mkF m pc1 ls (.int (cmpValue (FP.dcmp x y) o) :: st)))) : Go p.tables e below G (T.setTop (mkF m pc ls (.double y :: .double x :: st))) := by
  subst hp; exact Go.via (fun _ k => Jvm.Free.XS.dcmpS q.1 q.2.1 rfl (hb q.2.2 hd) rfl rfl k) K
theorem g_dadd (q : Q0 p T m c below code) {x y : UInt64} (hd : decode code pc = .ok (.dadd, 1)) (hn : Jvm.Free.Fl.NoNaN64 (FP.dadd x y)) (hp : pc + 1 = pc1) (K : Go p.tables e below G (T.setTop (mkF m pc1 ls (.double (FP.dadd x y) :: st)))) : Go p.tables e below G (T.setTop (mkF m pc ls (.double y :: .double x :: st))) := by
  subst hp; exact Go.via (fun _ k => Jvm.Free.XS.daddS q.1 q.2.1 rfl (hb q.2.2 hd) rfl hn rfl k) K
theorem g_dmul (q : Q0 p T m c below code) {x y : UInt64} (hd : decode code pc = .ok (.dmul, 1)) (hn : Jvm.Free.Fl.NoNaN64 (FP.dmul x y)) (hp : pc + 1 = pc1) (K : Go p.tables e below G (T.setTop (mkF m pc1 ls (.double (FP.dmul x y) :: st)))) : Go p.tables e below G (T.setTop (mkF m pc ls (.double y :: .double x :: st))) := by
  subst hp; exact Go.via (fun _ k => Jvm.Free.XS.dmulS q.1 q.2.1 rfl (hb q.2.2 hd) rfl hn rfl k) K
theorem g_floadN (q : Q0 p T m c below code) {k : Fin 4} {v : UInt32} (hd : decode code pc = .ok (.fload_n k, 1)) (hl : ls[k.val]? = some (.val (.float v))) (hp : pc + 1 = pc1) (K : Go p.tables e below G (T.setTop (mkF m pc1 ls (.float v :: st)))) : Go p.tables e below G (T.setTop (mkF m pc ls st)) := by
  subst hp; exact Go.via (fun _ k => Jvm.Free.XS.floadN q.1 q.2.1 rfl (hb q.2.2 hd) hl k) K
theorem g_fstoreN (q : Q0 p T m c below code) {k : Fin 4} {v : UInt32} (hd : decode code pc = .ok (.fstore_n k, 1)) (hl : storeLocals ls k.val (.float v) = some ls2) (hp : pc + 1 = pc1) (K : Go p.tables e below G (T.setTop (mkF m pc1 ls2 st))) : Go p.tables e below G (T.setTop (mkF m pc ls (.float v :: st))) := by
  subst hp; exact Go.via (fun _ k => Jvm.Free.XS.fstoreN q.1 q.2.1 rfl (hb q.2.2 hd) rfl hl k) K
theorem g_fload (q : Q0 p T m c below code) {k : Nat} {v : UInt32} (hd : decode code pc = .ok (.fload k, 2)) (hl : ls[k]? = some (.val (.float v))) (hp : pc + 2 = pc1) (K : Go p.tables e below G (T.setTop (mkF m pc1 ls (.float v :: st)))) : Go p.tables e below G (T.setTop (mkF m pc ls st)) := by
  subst hp; exact Go.via (fun _ k => Jvm.Free.XS.fload q.1 q.2.1 rfl (hb q.2.2 hd) hl k) K
theorem g_fstore (q : Q0 p T m c below code) {k : Nat} {v : UInt32} (hd : decode code pc = .ok (.fstore k, 2)) (hl : storeLocals ls k (.float v) = some ls2) (hp : pc + 2 = pc1) (K : Go p.tables e below G (T.setTop (mkF m pc1 ls2 st))) : Go p.tables e below G (T.setTop (mkF m pc ls (.float v :: st))) := by
  subst hp; exact Go.via (fun _ k => Jvm.Free.XS.fstore q.1 q.2.1 rfl (hb q.2.2 hd) rfl hl k) K
theorem g_i2f (q : Q0 p T m c below code) {x : Int32} (hd : decode code pc = .ok (.i2f, 1))  (hp : pc + 1 = pc1) (K : Go p.tables e below G (T.setTop (mkF m pc1 ls (.float (FP.i2f x) :: st)))) : Go p.tables e below G (T.setTop (mkF m pc ls (.int x :: st))) := by
  subst hp; exact Go.via (fun _ k => Jvm.Free.XS.i2fS q.1 q.2.1 rfl (hb q.2.2 hd) rfl rfl k) K
theorem g_f2d (q : Q0 p T m c below code) {x : UInt32} (hd : decode code pc = .ok (.f2d, 1)) (hn : Jvm.Free.Fl.NoNaN64 (FP.f2d x)) (hp : pc + 1 = pc1) (K : Go p.tables e below G (T.setTop (mkF m pc1 ls (.double (FP.f2d x) :: st)))) : Go p.tables e below G (T.setTop (mkF m pc ls (.float x :: st))) := by
  subst hp; exact Go.via (fun _ k => Jvm.Free.XS.f2dS q.1 q.2.1 rfl (hb q.2.2 hd) rfl hn rfl k) K
theorem g_dconst1 (q : Q0 p T m c below code)  (hd : decode code pc = .ok (.dconst 1, 1))  (hp : pc + 1 = pc1) (K : Go p.tables e below G (T.setTop (mkF m pc1 ls (.double 4607182418800017408 :: st)))) : Go p.tables e below G (T.setTop (mkF m pc ls st)) := by
  subst hp; exact Go.via (fun _ k => Jvm.Free.XS.dconst1 q.1 q.2.1 rfl (hb q.2.2 hd) (by decide +kernel) k) K
theorem g_dneg (q : Q0 p T m c below code) {x : UInt64} (hd : decode code pc = .ok (.dneg, 1))  (hp : pc + 1 = pc1) (K : Go p.tables e below G (T.setTop (mkF m pc1 ls (.double (FP.dneg x) :: st)))) : Go p.tables e below G (T.setTop (mkF m pc ls (.double x :: st))) := by
  subst hp; exact Go.via (fun _ k => Jvm.Free.XS.dnegS q.1 q.2.1 rfl (hb q.2.2 hd) rfl rfl k) K
theorem g_dsub (q : Q0 p T m c below code) {x y : UInt64} (hd : decode code pc = .ok (.dsub, 1)) (hn : Jvm.Free.Fl.NoNaN64 (FP.dsub x y)) (hp : pc + 1 = pc1) (K : Go p.tables e below G (T.setTop (mkF m pc1 ls (.double (FP.dsub x y) :: st)))) : Go p.tables e below G (T.setTop (mkF m pc ls (.double y :: .double x :: st))) := by
  subst hp; exact Go.via (fun _ k => Jvm.Free.XS.dsubS q.1 q.2.1 rfl (hb q.2.2 hd) rfl hn rfl k) K
theorem g_ddiv (q : Q0 p T m c below code) {x y : UInt64} (hd : decode code pc = .ok (.ddiv, 1)) (hn : Jvm.Free.Fl.NoNaN64 (FP.ddiv x y)) (hp : pc + 1 = pc1) (K : Go p.tables e below G (T.setTop (mkF m pc1 ls (.double (FP.ddiv x y) :: st)))) : Go p.tables e below G (T.setTop (mkF m pc ls (.double y :: .double x :: st))) := by
  subst hp; exact Go.via (fun _ k => Jvm.Free.XS.ddivS q.1 q.2.1 rfl (hb q.2.2 hd) rfl hn rfl k) K
theorem g_goto (q : Q0 p T m c below code) {o : Int} (hd : decode code pc = .ok (.goto o, 3)) (ho : 0 ≤ (pc : Int) + o) (hp : ((pc : Int) + o).toNat = pc1) (K : Go p.tables e below G (T.setTop (mkF m pc1 ls st))) : Go p.tables e below G (T.setTop (mkF m pc ls st)) :=
  Go.via (fun _ k => Jvm.Free.XS.goto q.1 q.2.1 rfl rfl (hb q.2.2 hd) ho hp k) K
theorem g_ifY (q : Q0 p T m c below code) {cd : ClassFile.Cond} {x : Int32} {o : Int} (hd : decode code pc = .ok (.ifCond cd o, 3)) (ho : 0 ≤ (pc : Int) + o) (hp : ((pc : Int) + o).toNat = pc1) (h : cv cd x 0) (K : Go p.tables e below G (T.setTop (mkF m pc1 ls st))) : Go p.tables e below G (T.setTop (mkF m pc ls (.int x :: st))) :=
  Go.via (fun _ k => Jvm.Free.XS.ifYes q.1 q.2.1 rfl rfl (hb q.2.2 hd) rfl (by rw [if0]; exact cvY h) ho hp k) K
theorem g_ifN (q : Q0 p T m c below code) {cd : ClassFile.Cond} {x : Int32} {o : Int} (hd : decode code pc = .ok (.ifCond cd o, 3)) (hp : pc + 3 = pc2) (h : ¬ cv cd x 0) (K : Go p.tables e below G (T.setTop (mkF m pc2 ls st))) : Go p.tables e below G (T.setTop (mkF m pc ls (.int x :: st))) := by
  subst hp; exact Go.via (fun _ k => Jvm.Free.XS.ifNo q.1 q.2.1 rfl (hb q.2.2 hd) rfl (by rw [if0]; exact cvN h) k) K
theorem g_if (q : Q0 p T m c below code) {cd : ClassFile.Cond} {x : Int32} {o : Int} (hd : decode code pc = .ok (.ifCond cd o, 3)) (ho : 0 ≤ (pc : Int) + o) (hp : ((pc : Int) + o).toNat = pc1) (hp2 : pc + 3 = pc2) (K : cv cd x 0 → Go p.tables e below G (T.setTop (mkF m pc1 ls st))) (K2 : ¬ cv cd x 0 → Go p.tables e below G (T.setTop (mkF m pc2 ls st))) : Go p.tables e below G (T.setTop (mkF m pc ls (.int x :: st))) :=
  (cvD cd x 0).elim (fun h => g_ifY q hd ho hp h (K h)) (fun h => g_ifN q hd hp2 h (K2 h))
theorem g_cmpY (q : Q0 p T m c below code) {cd : ClassFile.Cond} {x y : Int32} {o : Int} (hd : decode code pc = .ok (.if_icmp cd o, 3)) (ho : 0 ≤ (pc : Int) + o) (hp : ((pc : Int) + o).toNat = pc1) (h : cv cd x y) (K : Go p.tables e below G (T.setTop (mkF m pc1 ls st))) : Go p.tables e below G (T.setTop (mkF m pc ls (.int y :: .int x :: st))) :=
  Go.via (fun _ k => Jvm.Free.XS.icmpYes q.1 q.2.1 rfl rfl (hb q.2.2 hd) rfl (cvY h) ho hp k) K
theorem g_cmpN (q : Q0 p T m c below code) {cd : ClassFile.Cond} {x y : Int32} {o : Int} (hd : decode code pc = .ok (.if_icmp cd o, 3)) (hp : pc + 3 = pc2) (h : ¬ cv cd x y) (K : Go p.tables e below G (T.setTop (mkF m pc2 ls st))) : Go p.tables e below G (T.setTop (mkF m pc ls (.int y :: .int x :: st))) := by
  subst hp; exact Go.via (fun _ k => Jvm.Free.XS.icmpNo q.1 q.2.1 rfl (hb q.2.2 hd) rfl (cvN h) k) K
theorem g_cmp (q : Q0 p T m c below code) {cd : ClassFile.Cond} {x y : Int32} {o : Int} (hd : decode code pc = .ok (.if_icmp cd o, 3)) (ho : 0 ≤ (pc : Int) + o) (hp : ((pc : Int) + o).toNat = pc1) (hp2 : pc + 3 = pc2) (K : cv cd x y → Go p.tables e below G (T.setTop (mkF m pc1 ls st))) (K2 : ¬ cv cd x y → Go p.tables e below G (T.setTop (mkF m pc2 ls st))) : Go p.tables e below G (T.setTop (mkF m pc ls (.int y :: .int x :: st))) :=
  (cvD cd x y).elim (fun h => g_cmpY q hd ho hp h (K h)) (fun h => g_cmpN q hd hp2 h (K2 h))
theorem g_nullY (q : Q0 p T m c below code) {o : Int} (hd : decode code pc = .ok (.ifnull o, 3)) (ho : 0 ≤ (pc : Int) + o) (hp : ((pc : Int) + o).toNat = pc1) (K : Go p.tables e below G (T.setTop (mkF m pc1 ls st))) : Go p.tables e below G (T.setTop (mkF m pc ls (.null :: st))) :=
  Go.via (fun _ k => Jvm.Free.XS.ifnullYes q.1 q.2.1 rfl rfl (hb q.2.2 hd) rfl ho hp k) K
theorem g_nullN (q : Q0 p T m c below code) {o : Int} {b : Addr} (hd : decode code pc = .ok (.ifnull o, 3)) (hp : pc + 3 = pc2) (K : Go p.tables e below G (T.setTop (mkF m pc2 ls st))) : Go p.tables e below G (T.setTop (mkF m pc ls (.ref b :: st))) := by
  subst hp; exact Go.via (fun _ k => Jvm.Free.XS.ifnullNo q.1 q.2.1 rfl (hb q.2.2 hd) rfl k) K
theorem g_nonY (q : Q0 p T m c below code) {b : Addr} {o : Int} (hd : decode code pc = .ok (.ifnonnull o, 3)) (ho : 0 ≤ (pc : Int) + o) (hp : ((pc : Int) + o).toNat = pc1) (K : Go p.tables e below G (T.setTop (mkF m pc1 ls st))) : Go p.tables e below G (T.setTop (mkF m pc ls (.ref b :: st))) :=
  Go.via (fun _ k => Jvm.Free.XT.ifnonnullYes q.1 q.2.1 rfl rfl (hb q.2.2 hd) rfl ho hp k) K
theorem g_nonN (q : Q0 p T m c below code) {o : Int} (hd : decode code pc = .ok (.ifnonnull o, 3)) (hp : pc + 3 = pc2) (K : Go p.tables e below G (T.setTop (mkF m pc2 ls st))) : Go p.tables e below G (T.setTop (mkF m pc ls (.null :: st))) := by
  subst hp; exact Go.via (fun _ k => Jvm.Free.XT.ifnonnullNo q.1 q.2.1 rfl (hb q.2.2 hd) rfl k) K
theorem g_acmpY (q : Q0 p T m c below code) {cd : ClassFile.ACond} {x y : Value} {o : Int} (hd : decode code pc = .ok (.if_acmp cd o, 3)) (ho : 0 ≤ (pc : Int) + o) (hp : ((pc : Int) + o).toNat = pc1) (hx : x.isRef = true) (hy : y.isRef = true) (h : Jvm.Free.XT.acmp cd x y = true) (K : Go p.tables e below G (T.setTop (mkF m pc1 ls st))) : Go p.tables e below G (T.setTop (mkF m pc ls (y :: x :: st))) :=
  Go.via (fun _ k => Jvm.Free.XT.acmpYes q.1 q.2.1 rfl rfl (hb q.2.2 hd) rfl hx hy h ho hp k) K
theorem g_acmpN (q : Q0 p T m c below code) {cd : ClassFile.ACond} {x y : Value} {o : Int} (hd : decode code pc = .ok (.if_acmp cd o, 3)) (hp : pc + 3 = pc2) (hx : x.isRef = true) (hy : y.isRef = true) (h : Jvm.Free.XT.acmp cd x y = false) (K : Go p.tables e below G (T.setTop (mkF m pc2 ls st))) : Go p.tables e below G (T.setTop (mkF m pc ls (y :: x :: st))) := by
  subst hp; exact Go.via (fun _ k => Jvm.Free.XT.acmpNo q.1 q.2.1 rfl (hb q.2.2 hd) rfl hx hy h k) K
end Plain
/-- every place lies in a cell of wl, or in one made since -/
def Frw (wl : List Addr) (n : Nat) (L : List Loc) : Prop := ∀ y ∈ L, y.base ∈ wl ∨ n ≤ y.base
theorem Frw.nil {wl : List Addr} {n : Nat} : Frw wl n [] := fun _ q => nomatch q
theorem Frw.app {wl : List Addr} {n : Nat} {L L' : List Loc} (A : Frw wl n L) (B : Frw wl n L') : Frw wl n (L ++ L') := fun y q => (List.mem_append.mp q).elim (A y) (B y)
theorem Frw.snoc {wl : List Addr} {n : Nat} {L : List Loc} {a : Addr} {sl : Nat} (A : Frw wl n L) (q : a ∈ wl ∨ n ≤ a) : Frw wl n (L ++ [⟨a, sl⟩]) := A.app fun y hy => by cases List.mem_singleton.mp hy; exact q
theorem Frw.up {wl wl' : List Addr} {n n' : Nat} {L : List Loc} (A : Frw wl n L) (hn : n' ≤ n) (q : ∀ x ∈ wl, x ∈ wl' ∨ n' ≤ x) : Frw wl' n' L := fun y hy => (A y hy).elim (q _) (fun z => Or.inr (Nat.le_trans hn z))
theorem Frw.of_fr {wl : List Addr} {n n' : Nat} {L : List Loc} (A : Fr n L) (hn : n' ≤ n) : Frw wl n' L := fun y hy => Or.inr (Nat.le_trans hn (A y hy))
/-- where a walk stands: s its true start, vm0 the tables of its last interning step, h the heap -/
def Pos (p : Program) (l : Launch) (e : Env) (R : Room) (s : State) (m : MethodId) (args : Array Value) (below : List Frame) (meth : Method) (c : Code) (code : ByteArray) (Z : State) (EL : List (String × Nat)) (wl : List Addr) (hS : Heap) (own : String) (vm0 : Vm) (T : State) (locs : List Loc) (cells slots : Nat) (h : Heap) : Prop :=
  Stand p l e R (s.setVm vm0) m args below meth c T locs cells slots ∧ T.heap = h ∧ (∃ k0, s.Since vm0 k0 ∧ k0 ≤ h.size) ∧ Z.Warmed39 vm0 ∧ vm0.findClass own = some m.cls ∧ Frw wl hS.size locs ∧ s.heap = hS ∧ CHr Z EL s.vm hS vm0 h ∧ p.tables.exec = Jvm.exec ∧ c.code = code
section Heapy
variable {p : Program} {l : Launch} {e : Env} {R : Room} {s : State} {m : MethodId} {args : Array Value} {below : List Frame} {meth : Method} {c : Code} {code : ByteArray} {Z : State} {EL : List (String × Nat)} {wl : List Addr} {hS : Heap} {own : String} {vm0 : Vm} {T : State} {locs : List Loc} {cells slots : Nat} {h : Heap} {a0 : Array Value} {G : Outcome → State → Prop} {pc pc1 pc2 : Nat} {ls ls2 : Array Slot} {st : List Value}
theorem Pos.q (P : Pos p l e R s m args below meth c code Z EL wl hS own vm0 T locs cells slots h) : Q0 p T m c below code := ⟨P.1.here, P.2.2.2.2.2.2.2.2⟩
theorem Pos.hz (P : Pos p l e R s m args below meth c code Z EL wl hS own vm0 T locs cells slots h) : Z.Warmed39 (s.setVm vm0).vm := P.2.2.2.1
theorem Pos.al (P : Pos p l e R s m args below meth c code Z EL wl hS own vm0 T locs cells slots h) : Z.vm.Alike vm0 := P.2.2.2.1.alike
theorem Pos.heap (P : Pos p l e R s m args below meth c code Z EL wl hS own vm0 T locs cells slots h) : T.heap = h := P.2.1
theorem Pos.fr (P : Pos p l e R s m args below meth c code Z EL wl hS own vm0 T locs cells slots h) : Frw wl hS.size locs := P.2.2.2.2.2.1
theorem Pos.sz (P : Pos p l e R s m args below meth c code Z EL wl hS own vm0 T locs cells slots h) : hS.size ≤ h.size := P.2.2.2.2.2.2.2.1.2.1
theorem Pos.chv (P : Pos p l e R s m args below meth c code Z EL wl hS own vm0 T locs cells slots h) : CHv Z EL vm0 h := P.2.2.2.2.2.2.2.1.1
theorem Pos.chr (P : Pos p l e R s m args below meth c code Z EL wl hS own vm0 T locs cells slots h) : CHr Z EL s.vm hS vm0 h := P.2.2.2.2.2.2.2.1
theorem Pos.mono (P : Pos p l e R s m args below meth c code Z EL wl hS own vm0 T locs cells slots h) {cells' slots' : Nat} (hc : cells ≤ cells') (hs : slots ≤ slots') : Pos p l e R s m args below meth c code Z EL wl hS own vm0 T locs cells' slots' h := ⟨P.1.mono hc hs, P.2⟩
theorem Pos.keep (P : Pos p l e R s m args below meth c code Z EL wl hS own vm0 T locs cells slots h) : Keep hS h wl := by
  obtain ⟨X, rfl, -, -, -, N, rfl, -⟩ := P
  have hsame := X.same
  have key : ∀ (x : Addr) (c0 : Cell), s.heap[x]? = some c0 → x ∉ wl → T.heap[x]? = some c0 := fun x c0 q r => by
    obtain ⟨c', h1, h2, -, h4⟩ := hsame.2.2.2.2.2 x c0 q
    have hb := (Array.getElem?_eq_some_iff.mp q).1
    have hsl : c'.slots = c0.slots := Array.ext_getElem? fun i => h4 i fun hm => (N _ hm).elim r (fun z => absurd hb (Nat.not_lt.mpr z))
    have hcc : c' = c0 := by rw [h2, hsl]
    rw [← hcc]; exact h1
  exact ⟨hsame.2.1, key, fun x c0 q => by
    obtain ⟨c', h1, h2, h3, -⟩ := hsame.2.2.2.2.2 x c0 q
    exact ⟨c', h1, by rw [h2], by rw [h2], h3⟩⟩
theorem Pos.ext0 (P : Pos p l e R s m args below meth c code Z EL [] hS own vm0 T locs cells slots h) : Ext hS h := ⟨P.keep.1, fun a c q => P.keep.2.1 a c q nin0⟩
theorem Pos.extZ (P : Pos p l e R s m args below meth c code Z EL wl hS own vm0 T locs cells slots h) (EZ : Ext Z.heap hS) (q : ∀ x ∈ wl, Z.heap.size ≤ x) : Ext Z.heap h := ⟨Nat.le_trans EZ.1 P.keep.1, fun a c r => P.keep.2.1 a c (EZ.2 a c r) fun z => absurd (Array.getElem?_eq_some_iff.mp r).1 (Nat.not_lt.mpr (q a z))⟩
/-- a step that leaves heap and tables of interned texts as they are -/
theorem Pos.same (P : Pos p l e R s m args below meth c code Z EL wl hS own vm0 T locs cells slots h) {T' : State} (X' : Stand p l e R (s.setVm vm0) m args below meth c T' locs cells slots) (e' : T'.heap = h) : Pos p l e R s m args below meth c code Z EL wl hS own vm0 T' locs cells slots h := by
  obtain ⟨X, eT, hsi, hZ, hown, N, n1, C, hx, hby⟩ := P; exact ⟨X', e', hsi, hZ, hown, N, n1, C, hx, hby⟩
theorem Pos.grown (P : Pos p l e R s m args below meth c code Z EL wl hS own vm0 T locs cells slots h) {T' : State} {h' : Heap} {cells' slots' : Nat} (X' : Stand p l e R (s.setVm vm0) m args below meth c T' locs cells' slots') (e' : T'.heap = h') (E : Ext h h') : Pos p l e R s m args below meth c code Z EL wl hS own vm0 T' locs cells' slots' h' := by
  obtain ⟨X, eT, hsi, hZ, hown, N, n1, C, hx, hby⟩ := P; obtain ⟨k0, q1, q2⟩ := hsi; exact ⟨X', e', ⟨k0, q1, Nat.le_trans q2 E.1⟩, hZ, hown, N, n1, C.trans (CHr.ext E C.1), hx, hby⟩
theorem Pos.wrote (P : Pos p l e R s m args below meth c code Z EL wl hS own vm0 T locs cells slots h) {T' : State} {h' : Heap} {a : Addr} {sl : Nat} {v : Value} (X' : Stand p l e R (s.setVm vm0) m args below meth c T' (locs ++ [⟨a, sl⟩]) cells slots) (e' : T'.heap = h') (Wq : Wr h h' a sl v) (ga : a ∈ wl ∨ hS.size ≤ a) (S : Safe Z EL vm0 h a) : Pos p l e R s m args below meth c code Z EL wl hS own vm0 T' (locs ++ [⟨a, sl⟩]) cells slots h' := by
  obtain ⟨X, eT, hsi, hZ, hown, N, n1, C, hx, hby⟩ := P; obtain ⟨k0, q1, q2⟩ := hsi; have hs := Wq.size; exact ⟨X', e', ⟨k0, q1, by omega⟩, hZ, hown, N.snoc ga, n1, C.trans (CHr.wr Wq S C.1), hx, hby⟩
theorem Pos.came (P : Pos p l e R s m args below meth c code Z EL wl hS own vm0 T locs cells slots h) {T' : State} {L : List Loc} {cells' slots' : Nat} (X' : Stand p l e R (s.setVm vm0) m args below meth c T' (locs ++ L) cells' slots') (F : Frw wl hS.size L) (C' : CHr Z EL vm0 h vm0 T'.heap) : Pos p l e R s m args below meth c code Z EL wl hS own vm0 T' (locs ++ L) cells' slots' T'.heap := by
  obtain ⟨X, eT, hsi, hZ, hown, N, n1, C, hx, hby⟩ := P; obtain ⟨k0, q1, q2⟩ := hsi; have hs := C'.2.1; exact ⟨X', rfl, ⟨k0, q1, Nat.le_trans q2 hs⟩, hZ, hown, N.app F, n1, C.trans C', hx, hby⟩
theorem Pos.cameW (P : Pos p l e R s m args below meth c code Z EL wl hS own vm0 T locs cells slots h) {T' : State} {L : List Loc} {cells' slots' : Nat} (X' : Stand p l e R ((s.setVm vm0).setVm T'.vm) m args below meth c T' (locs ++ L) cells' slots') (h2 : (s.setVm vm0).Since T'.vm T'.heap.size) (g : h.size ≤ T'.heap.size) (F : Frw wl hS.size L) (C' : CHr Z EL vm0 h T'.vm T'.heap) : Pos p l e R s m args below meth c code Z EL wl hS own T'.vm T' (locs ++ L) cells' slots' T'.heap := by
  obtain ⟨X, eT, hsi, hZ, hown, N, n1, C, hx, hby⟩ := P; obtain ⟨k0, q1, q2⟩ := hsi
  obtain ⟨y1, y2, y3, y4⟩ := rebS q1 q2 X' h2 g hZ hown
  exact ⟨y1, rfl, ⟨_, y2, Nat.le_refl _⟩, y3, y4, N.app F, n1, C.trans C', hx, hby⟩
theorem Pos.getF (P : Pos p l e R s m args below meth c code Z EL wl hS own vm0 T locs cells slots h) {R0 O n d host : String} {index : Nat} {a : Addr} {v : Value} (w : (Cond.fieldLink own index R0 n d).before a0 Z = true ∨ (Cond.fieldLinkNest own index R0 n d host).before a0 Z = true) (via : Via Z R0 O n d) (F : Fld Z h a O n d v) (hd : decode code pc = .ok (.getfield index, 3)) (hp : pc + 3 = pc1) (K : ∀ (T' : State), Pos p l e R s m args below meth c code Z EL wl hS own vm0 T' locs cells slots h → Go p.tables e below G (T'.setTop (mkF m pc1 ls (v :: st)))) : Go p.tables e below G (T.setTop (mkF m pc ls (.ref a :: st))) := by
  subst hp
  obtain ⟨T', X', e', stp⟩ := RoadKit.getF P.1 P.q.2.1 P.hz P.2.2.2.2.1 w via P.heap F (g := mkF m pc ls (.ref a :: st)) rfl rfl (hb P.q.2.2 hd)
  exact Go.via stp (K T' (P.same X' e'))
theorem Pos.getS (P : Pos p l e R s m args below meth c code Z EL wl hS own vm0 T locs cells slots h) {R0 O n d : String} {index : Nat} {v : Value} (w : (Cond.fieldLink own index R0 n d).before a0 Z = true) (via : Via Z R0 O n d) (F : Sta Z h O n d v) (hd : decode code pc = .ok (.getstatic index, 3)) (hp : pc + 3 = pc1) (K : ∀ (T' : State), Pos p l e R s m args below meth c code Z EL wl hS own vm0 T' locs cells slots h → Go p.tables e below G (T'.setTop (mkF m pc1 ls (v :: st)))) : Go p.tables e below G (T.setTop (mkF m pc ls st)) := by
  subst hp
  obtain ⟨T', X', e', stp⟩ := RoadKit.getS (host := "") P.1 P.q.2.1 P.hz P.2.2.2.2.1 w via P.heap F (g := mkF m pc ls st) rfl (hb P.q.2.2 hd)
  exact Go.via stp (K T' (P.same X' e'))
theorem Pos.putF (P : Pos p l e R s m args below meth c code Z EL wl hS own vm0 T locs cells slots h) {R0 O n d host C : String} {index kk : Nat} {ty : FieldType} {a : Addr} {v old : Value} (w : (Cond.fieldLink own index R0 n d).before a0 Z = true ∨ (Cond.fieldLinkNest own index R0 n d host).before a0 Z = true) (via : Via Z R0 O n d) (F : Fld Z h a O n d old) (E : Exa Z h a C) (L : (Cond.lays C O n d).before a0 Z = true ∨ ((Cond.laysFinal C O n d).before a0 Z = true ∧ own = O ∧ meth.name = "<init>")) (wi : (Cond.instantiable C kk).before a0 Z = true) (hty : parseFieldDescriptor d = some ty) (hn : narrow ty v = v) (hf : fits ty v = true) (ga : a ∈ wl ∨ hS.size ≤ a) (S : Safe Z EL vm0 h a) (hd : decode code pc = .ok (.putfield index, 3)) (hp : pc + 3 = pc1) (K : ∀ (T' : State) (h' : Heap), Pos p l e R s m args below meth c code Z EL wl hS own vm0 T' (locs ++ [⟨a, RoadKit.slotOf Z O n d⟩]) cells slots h' → Wr h h' a (RoadKit.slotOf Z O n d) v → Go p.tables e below G (T'.setTop (mkF m pc1 ls st))) : Go p.tables e below G (T.setTop (mkF m pc ls (v :: .ref a :: st))) := by
  subst hp
  obtain ⟨T', h', X', e', W', stp⟩ := RoadKit.putF P.1 P.q.2.1 P.hz P.2.2.2.2.1 w via P.heap F E L wi hty hn hf (g := mkF m pc ls (v :: .ref a :: st)) rfl rfl (hb P.q.2.2 hd)
  exact Go.via stp (K T' h' (P.wrote X' e' W' ga S) W')
theorem Pos.newO (P : Pos p l e R s m args below meth c code Z EL wl hS own vm0 T locs cells slots h) {C : String} {index n : Nat} (w : (Cond.classLink own index C).before a0 Z = true) (wi : (Cond.instantiable C n).before a0 Z = true) (wz : (Cond.initialized C).before a0 Z = true) (hc : cells + 1 ≤ R.cells) (hl : slots + n ≤ R.slots) (hd : decode code pc = .ok (.new index, 3)) (hp : pc + 3 = pc1) (K : ∀ (T' : State) (h' : Heap) (x : Addr), x = h.size → Pos p l e R s m args below meth c code Z EL wl hS own vm0 T' locs (cells + 1) (slots + n) h' → Ext h h' → Exa Z h' x C → (∀ {O nm d : String} {ty : FieldType}, Laid Z a0 C O nm d → parseFieldDescriptor d = some ty → Fld Z h' x O nm d (defaultValue ty)) → (∃ cell : Cell, h'[x]? = some cell ∧ cell.vm = .none ∧ cell.monitor = {}) → Go p.tables e below G (T'.setTop (mkF m pc1 ls (.ref x :: st)))) : Go p.tables e below G (T.setTop (mkF m pc ls st)) := by
  subst hp
  obtain ⟨T', h', X', e', E', A', D', U', stp⟩ := RoadKit.newO P.1 P.q.2.1 P.hz P.2.2.2.2.1 w wi wz P.heap (g := mkF m pc ls st) rfl (hb P.q.2.2 hd) hc hl
  exact Go.via stp (K T' h' _ rfl (P.grown X' e' E') E' A' D' U')
theorem Pos.newP (P : Pos p l e R s m args below meth c code Z EL wl hS own vm0 T locs cells slots h) {aty : ArrayType} {n : Int32} {cap : Nat} (w : (Cond.arrayClass (newarray.typeOf aty)).before a0 Z = true) (hn : ¬ n < 0) (hcap : n.toNatClampNeg ≤ cap) (hb8 : cap * 8 ≤ 536870912) (hc : cells + 1 ≤ R.cells) (hl : slots + cap ≤ R.slots) (hd : decode code pc = .ok (.newarray aty, 2)) (hp : pc + 2 = pc1) (K : ∀ (T' : State) (h' : Heap) (x : Addr) (k : ClassId), x = h.size → Pos p l e R s m args below meth c code Z EL wl hS own vm0 T' locs (cells + 1) (slots + cap) h' → Ext h h' → Arv Z h' x k (newarray.typeOf aty) n (List.replicate n.toNatClampNeg (defaultValue (newarray.typeOf aty))) (defaultValue (newarray.typeOf aty)) → Go p.tables e below G (T'.setTop (mkF m pc1 ls (.ref x :: st)))) : Go p.tables e below G (T.setTop (mkF m pc ls (.int n :: st))) := by
  subst hp
  obtain ⟨T', h', k, X', e', E', A', stp⟩ := RoadKit.newP P.1 P.q.2.1 P.hz w P.heap (g := mkF m pc ls (.int n :: st)) rfl (hb P.q.2.2 hd) rfl hn hcap hb8 hc hl
  exact Go.via stp (K T' h' _ k rfl (P.grown X' e' E') E' ((Arv.new A' hn).pad (pad_rep [] _ _)))
theorem Pos.stC (P : Pos p l e R s m args below meth c code Z EL wl hS own vm0 T locs cells slots h) {a : Addr} {k : ClassId} {z j : Int32} {x : Int32} {vs : List Value} {d : Value} {i : Nat} (V : Arv Z h a k .char z vs d) (hj : ¬ j < 0) (hi : j.toNatClampNeg = i) (hl : i < vs.length) (hz : z.toNatClampNeg = vs.length) (ga : a ∈ wl ∨ hS.size ≤ a) (S : Safe Z EL vm0 h a) (hd : decode code pc = .ok (.castore, 1)) (hp : pc + 1 = pc1) (K : ∀ (T' : State) (h' : Heap), Pos p l e R s m args below meth c code Z EL wl hS own vm0 T' (locs ++ [⟨a, j.toNatClampNeg⟩]) cells slots h' → Wr h h' a j.toNatClampNeg (.int (nar .char x)) → Arv Z h' a k .char z (vs.set i (.int (nar .char x))) d → Go p.tables e below G (T'.setTop (mkF m pc1 ls st))) : Go p.tables e below G (T.setTop (mkF m pc ls (.int x :: .int j :: .ref a :: st))) := by
  subst hp
  obtain ⟨cl, A, q1, S1, q3, H1, G1⟩ := V
  obtain ⟨T', h', X', e', W', stp⟩ := RoadKit.stC P.1 P.q.2.1 P.hz P.heap A (j := j) (x := x) (fun y => y.elim hj (fun y => by rw [S1] at y; omega)) (g := mkF m pc ls (.int x :: .int j :: .ref a :: st)) rfl rfl (hb P.q.2.2 hd)
  exact Go.via stp (K T' h' (P.wrote X' e' W' ga S) W' (Arv.set A q1 S1 q3 H1 G1 (fits_nar_char x) W' i hi hl))
theorem Pos.stB (P : Pos p l e R s m args below meth c code Z EL wl hS own vm0 T locs cells slots h) {a : Addr} {k : ClassId} {z j : Int32} {x : Int32} {vs : List Value} {d : Value} {i : Nat} (V : Arv Z h a k .byte z vs d) (hj : ¬ j < 0) (hi : j.toNatClampNeg = i) (hl : i < vs.length) (hz : z.toNatClampNeg = vs.length) (ga : a ∈ wl ∨ hS.size ≤ a) (S : Safe Z EL vm0 h a) (hd : decode code pc = .ok (.bastore, 1)) (hp : pc + 1 = pc1) (K : ∀ (T' : State) (h' : Heap), Pos p l e R s m args below meth c code Z EL wl hS own vm0 T' (locs ++ [⟨a, j.toNatClampNeg⟩]) cells slots h' → Wr h h' a j.toNatClampNeg (.int (nar .byte x)) → Arv Z h' a k .byte z (vs.set i (.int (nar .byte x))) d → Go p.tables e below G (T'.setTop (mkF m pc1 ls st))) : Go p.tables e below G (T.setTop (mkF m pc ls (.int x :: .int j :: .ref a :: st))) := by
  subst hp
  obtain ⟨cl, A, q1, S1, q3, H1, G1⟩ := V
  obtain ⟨T', h', X', e', W', stp⟩ := RoadKit.stB P.1 P.q.2.1 P.hz P.heap A (j := j) (x := x) (fun y => y.elim hj (fun y => by rw [S1] at y; omega)) (g := mkF m pc ls (.int x :: .int j :: .ref a :: st)) rfl rfl (hb P.q.2.2 hd)
  exact Go.via stp (K T' h' (P.wrote X' e' W' ga S) W' (Arv.set A q1 S1 q3 H1 G1 (fits_nar_byte x) W' i hi hl))
theorem Pos.stZ (P : Pos p l e R s m args below meth c code Z EL wl hS own vm0 T locs cells slots h) {a : Addr} {k : ClassId} {z j : Int32} {x : Int32} {vs : List Value} {d : Value} {i : Nat} (V : Arv Z h a k .boolean z vs d) (hj : ¬ j < 0) (hi : j.toNatClampNeg = i) (hl : i < vs.length) (hz : z.toNatClampNeg = vs.length) (ga : a ∈ wl ∨ hS.size ≤ a) (S : Safe Z EL vm0 h a) (hd : decode code pc = .ok (.bastore, 1)) (hp : pc + 1 = pc1) (K : ∀ (T' : State) (h' : Heap), Pos p l e R s m args below meth c code Z EL wl hS own vm0 T' (locs ++ [⟨a, j.toNatClampNeg⟩]) cells slots h' → Wr h h' a j.toNatClampNeg (.int (nar .boolean x)) → Arv Z h' a k .boolean z (vs.set i (.int (nar .boolean x))) d → Go p.tables e below G (T'.setTop (mkF m pc1 ls st))) : Go p.tables e below G (T.setTop (mkF m pc ls (.int x :: .int j :: .ref a :: st))) := by
  subst hp
  obtain ⟨cl, A, q1, S1, q3, H1, G1⟩ := V
  obtain ⟨T', h', X', e', W', stp⟩ := RoadKit.stZ P.1 P.q.2.1 P.hz P.heap A (j := j) (x := x) (fun y => y.elim hj (fun y => by rw [S1] at y; omega)) (g := mkF m pc ls (.int x :: .int j :: .ref a :: st)) rfl rfl (hb P.q.2.2 hd)
  exact Go.via stp (K T' h' (P.wrote X' e' W' ga S) W' (Arv.set A q1 S1 q3 H1 G1 (fits_nar_bool x) W' i hi hl))
theorem Pos.stI (P : Pos p l e R s m args below meth c code Z EL wl hS own vm0 T locs cells slots h) {a : Addr} {k : ClassId} {z j : Int32} {x : Int32} {vs : List Value} {d : Value} {i : Nat} (V : Arv Z h a k .int z vs d) (hj : ¬ j < 0) (hi : j.toNatClampNeg = i) (hl : i < vs.length) (hz : z.toNatClampNeg = vs.length) (ga : a ∈ wl ∨ hS.size ≤ a) (S : Safe Z EL vm0 h a) (hd : decode code pc = .ok (.iastore, 1)) (hp : pc + 1 = pc1) (K : ∀ (T' : State) (h' : Heap), Pos p l e R s m args below meth c code Z EL wl hS own vm0 T' (locs ++ [⟨a, j.toNatClampNeg⟩]) cells slots h' → Wr h h' a j.toNatClampNeg (.int x) → Arv Z h' a k .int z (vs.set i (.int x)) d → Go p.tables e below G (T'.setTop (mkF m pc1 ls st))) : Go p.tables e below G (T.setTop (mkF m pc ls (.int x :: .int j :: .ref a :: st))) := by
  subst hp
  obtain ⟨cl, A, q1, S1, q3, H1, G1⟩ := V
  obtain ⟨T', h', X', e', W', stp⟩ := RoadKit.stI P.1 P.q.2.1 P.hz P.heap A (j := j) (x := x) (fun y => y.elim hj (fun y => by rw [S1] at y; omega)) (g := mkF m pc ls (.int x :: .int j :: .ref a :: st)) rfl rfl (hb P.q.2.2 hd)
  exact Go.via stp (K T' h' (P.wrote X' e' W' ga S) W' (Arv.set A q1 S1 q3 H1 G1 (rfl) W' i hi hl))
theorem Pos.stJ (P : Pos p l e R s m args below meth c code Z EL wl hS own vm0 T locs cells slots h) {a : Addr} {k : ClassId} {z j : Int32} {x : Int64} {vs : List Value} {d : Value} {i : Nat} (V : Arv Z h a k .long z vs d) (hj : ¬ j < 0) (hi : j.toNatClampNeg = i) (hl : i < vs.length) (hz : z.toNatClampNeg = vs.length) (ga : a ∈ wl ∨ hS.size ≤ a) (S : Safe Z EL vm0 h a) (hd : decode code pc = .ok (.lastore, 1)) (hp : pc + 1 = pc1) (K : ∀ (T' : State) (h' : Heap), Pos p l e R s m args below meth c code Z EL wl hS own vm0 T' (locs ++ [⟨a, j.toNatClampNeg⟩]) cells slots h' → Wr h h' a j.toNatClampNeg (.long x) → Arv Z h' a k .long z (vs.set i (.long x)) d → Go p.tables e below G (T'.setTop (mkF m pc1 ls st))) : Go p.tables e below G (T.setTop (mkF m pc ls (.long x :: .int j :: .ref a :: st))) := by
  subst hp
  obtain ⟨cl, A, q1, S1, q3, H1, G1⟩ := V
  obtain ⟨T', h', X', e', W', stp⟩ := RoadKit.stJ P.1 P.q.2.1 P.hz P.heap A (j := j) (x := x) (fun y => y.elim hj (fun y => by rw [S1] at y; omega)) (g := mkF m pc ls (.long x :: .int j :: .ref a :: st)) rfl rfl (hb P.q.2.2 hd)
  exact Go.via stp (K T' h' (P.wrote X' e' W' ga S) W' (Arv.set A q1 S1 q3 H1 G1 (rfl) W' i hi hl))
theorem Pos.stD (P : Pos p l e R s m args below meth c code Z EL wl hS own vm0 T locs cells slots h) {a : Addr} {k : ClassId} {z j : Int32} {x : UInt64} {vs : List Value} {d : Value} {i : Nat} (V : Arv Z h a k .double z vs d) (hj : ¬ j < 0) (hi : j.toNatClampNeg = i) (hl : i < vs.length) (hz : z.toNatClampNeg = vs.length) (ga : a ∈ wl ∨ hS.size ≤ a) (S : Safe Z EL vm0 h a) (hd : decode code pc = .ok (.dastore, 1)) (hp : pc + 1 = pc1) (K : ∀ (T' : State) (h' : Heap), Pos p l e R s m args below meth c code Z EL wl hS own vm0 T' (locs ++ [⟨a, j.toNatClampNeg⟩]) cells slots h' → Wr h h' a j.toNatClampNeg (.double x) → Arv Z h' a k .double z (vs.set i (.double x)) d → Go p.tables e below G (T'.setTop (mkF m pc1 ls st))) : Go p.tables e below G (T.setTop (mkF m pc ls (.double x :: .int j :: .ref a :: st))) := by
  subst hp
  obtain ⟨cl, A, q1, S1, q3, H1, G1⟩ := V
  obtain ⟨T', h', X', e', W', stp⟩ := RoadKit.stD P.1 P.q.2.1 P.hz P.heap A (j := j) (x := x) (fun y => y.elim hj (fun y => by rw [S1] at y; omega)) (g := mkF m pc ls (.double x :: .int j :: .ref a :: st)) rfl rfl (hb P.q.2.2 hd)
  exact Go.via stp (K T' h' (P.wrote X' e' W' ga S) W' (Arv.set A q1 S1 q3 H1 G1 (rfl) W' i hi hl))
theorem Pos.stF (P : Pos p l e R s m args below meth c code Z EL wl hS own vm0 T locs cells slots h) {a : Addr} {k : ClassId} {z j : Int32} {x : UInt32} {vs : List Value} {d : Value} {i : Nat} (V : Arv Z h a k .float z vs d) (hj : ¬ j < 0) (hi : j.toNatClampNeg = i) (hl : i < vs.length) (hz : z.toNatClampNeg = vs.length) (ga : a ∈ wl ∨ hS.size ≤ a) (S : Safe Z EL vm0 h a) (hd : decode code pc = .ok (.fastore, 1)) (hp : pc + 1 = pc1) (K : ∀ (T' : State) (h' : Heap), Pos p l e R s m args below meth c code Z EL wl hS own vm0 T' (locs ++ [⟨a, j.toNatClampNeg⟩]) cells slots h' → Wr h h' a j.toNatClampNeg (.float x) → Arv Z h' a k .float z (vs.set i (.float x)) d → Go p.tables e below G (T'.setTop (mkF m pc1 ls st))) : Go p.tables e below G (T.setTop (mkF m pc ls (.float x :: .int j :: .ref a :: st))) := by
  subst hp
  obtain ⟨cl, A, q1, S1, q3, H1, G1⟩ := V
  obtain ⟨T', h', X', e', W', stp⟩ := RoadKit.stF P.1 P.q.2.1 P.hz P.heap A (j := j) (x := x) (fun y => y.elim hj (fun y => by rw [S1] at y; omega)) (g := mkF m pc ls (.float x :: .int j :: .ref a :: st)) rfl rfl (hb P.q.2.2 hd)
  exact Go.via stp (K T' h' (P.wrote X' e' W' ga S) W' (Arv.set A q1 S1 q3 H1 G1 (rfl) W' i hi hl))
theorem Pos.ldC (P : Pos p l e R s m args below meth c code Z EL wl hS own vm0 T locs cells slots h) {a : Addr} {k : ClassId} {z j : Int32} {vs : List Value} {d v : Value} (V : Arv Z h a k .char z vs d) (hj : ¬ j < 0) (hz : j.toNatClampNeg < z.toNatClampNeg) (hv : vs.getD j.toNatClampNeg d = v) (hd : decode code pc = .ok (.caload, 1)) (hp : pc + 1 = pc1) (K : Go p.tables e below G (T.setTop (mkF m pc1 ls (v :: st)))) : Go p.tables e below G (T.setTop (mkF m pc ls (.int j :: .ref a :: st))) := by
  subst hp
  obtain ⟨cl, A, q1, S1, q3, H1, G1⟩ := V
  exact Go.via (fun t k => P.1.caload P.q.2.1 (j := j) (v := v) (by rw [P.heap]; exact A.1) (State.isArrayOf_alike P.hz.alike A.2.1) A.2.2 (fun y => y.elim hj (fun y => by rw [S1] at y; omega)) (by rw [← hv]; exact H1 _ (by rw [S1]; exact hz)) (g := mkF m pc ls (.int j :: .ref a :: st)) rfl rfl (hb P.q.2.2 hd) t k) K
theorem Pos.ldB (P : Pos p l e R s m args below meth c code Z EL wl hS own vm0 T locs cells slots h) {a : Addr} {k : ClassId} {z j : Int32} {vs : List Value} {d v : Value} (V : Arv Z h a k .byte z vs d) (hj : ¬ j < 0) (hz : j.toNatClampNeg < z.toNatClampNeg) (hv : vs.getD j.toNatClampNeg d = v) (hd : decode code pc = .ok (.baload, 1)) (hp : pc + 1 = pc1) (K : Go p.tables e below G (T.setTop (mkF m pc1 ls (v :: st)))) : Go p.tables e below G (T.setTop (mkF m pc ls (.int j :: .ref a :: st))) := by
  subst hp
  obtain ⟨cl, A, q1, S1, q3, H1, G1⟩ := V
  exact Go.via (fun t k => P.1.baloadBytes P.q.2.1 (j := j) (v := v) (by rw [P.heap]; exact A.1) (State.isArrayOf_alike P.hz.alike A.2.1) A.2.2 (fun y => y.elim hj (fun y => by rw [S1] at y; omega)) (by rw [← hv]; exact H1 _ (by rw [S1]; exact hz)) (g := mkF m pc ls (.int j :: .ref a :: st)) rfl rfl (hb P.q.2.2 hd) t k) K
theorem Pos.ldZ (P : Pos p l e R s m args below meth c code Z EL wl hS own vm0 T locs cells slots h) {a : Addr} {k : ClassId} {z j : Int32} {vs : List Value} {d v : Value} (V : Arv Z h a k .boolean z vs d) (hj : ¬ j < 0) (hz : j.toNatClampNeg < z.toNatClampNeg) (hv : vs.getD j.toNatClampNeg d = v) (hd : decode code pc = .ok (.baload, 1)) (hp : pc + 1 = pc1) (K : Go p.tables e below G (T.setTop (mkF m pc1 ls (v :: st)))) : Go p.tables e below G (T.setTop (mkF m pc ls (.int j :: .ref a :: st))) := by
  subst hp
  obtain ⟨cl, A, q1, S1, q3, H1, G1⟩ := V
  exact Go.via (fun t k => P.1.baloadBooleans P.q.2.1 (j := j) (v := v) (by rw [P.heap]; exact A.1) (State.isArrayOf_alike P.hz.alike A.2.1) A.2.2 (fun y => y.elim hj (fun y => by rw [S1] at y; omega)) (by rw [← hv]; exact H1 _ (by rw [S1]; exact hz)) (g := mkF m pc ls (.int j :: .ref a :: st)) rfl rfl (hb P.q.2.2 hd) t k) K
theorem Pos.ldI (P : Pos p l e R s m args below meth c code Z EL wl hS own vm0 T locs cells slots h) {a : Addr} {k : ClassId} {z j : Int32} {vs : List Value} {d v : Value} (V : Arv Z h a k .int z vs d) (hj : ¬ j < 0) (hz : j.toNatClampNeg < z.toNatClampNeg) (hv : vs.getD j.toNatClampNeg d = v) (hd : decode code pc = .ok (.iaload, 1)) (hp : pc + 1 = pc1) (K : Go p.tables e below G (T.setTop (mkF m pc1 ls (v :: st)))) : Go p.tables e below G (T.setTop (mkF m pc ls (.int j :: .ref a :: st))) := by
  subst hp
  obtain ⟨cl, A, q1, S1, q3, H1, G1⟩ := V
  exact Go.via (fun t k => P.1.iaload P.q.2.1 (j := j) (v := v) (by rw [P.heap]; exact A.1) (State.isArrayOf_alike P.hz.alike A.2.1) A.2.2 (fun y => y.elim hj (fun y => by rw [S1] at y; omega)) (by rw [← hv]; exact H1 _ (by rw [S1]; exact hz)) (g := mkF m pc ls (.int j :: .ref a :: st)) rfl rfl (hb P.q.2.2 hd) t k) K
theorem Pos.ldJ (P : Pos p l e R s m args below meth c code Z EL wl hS own vm0 T locs cells slots h) {a : Addr} {k : ClassId} {z j : Int32} {vs : List Value} {d v : Value} (V : Arv Z h a k .long z vs d) (hj : ¬ j < 0) (hz : j.toNatClampNeg < z.toNatClampNeg) (hv : vs.getD j.toNatClampNeg d = v) (hd : decode code pc = .ok (.laload, 1)) (hp : pc + 1 = pc1) (K : Go p.tables e below G (T.setTop (mkF m pc1 ls (v :: st)))) : Go p.tables e below G (T.setTop (mkF m pc ls (.int j :: .ref a :: st))) := by
  subst hp
  obtain ⟨cl, A, q1, S1, q3, H1, G1⟩ := V
  exact Go.via (fun t k => P.1.laload P.q.2.1 (j := j) (v := v) (by rw [P.heap]; exact A.1) (State.isArrayOf_alike P.hz.alike A.2.1) A.2.2 (fun y => y.elim hj (fun y => by rw [S1] at y; omega)) (by rw [← hv]; exact H1 _ (by rw [S1]; exact hz)) (g := mkF m pc ls (.int j :: .ref a :: st)) rfl rfl (hb P.q.2.2 hd) t k) K
theorem Pos.ldD (P : Pos p l e R s m args below meth c code Z EL wl hS own vm0 T locs cells slots h) {a : Addr} {k : ClassId} {z j : Int32} {vs : List Value} {d v : Value} (V : Arv Z h a k .double z vs d) (hj : ¬ j < 0) (hz : j.toNatClampNeg < z.toNatClampNeg) (hv : vs.getD j.toNatClampNeg d = v) (hd : decode code pc = .ok (.daload, 1)) (hp : pc + 1 = pc1) (K : Go p.tables e below G (T.setTop (mkF m pc1 ls (v :: st)))) : Go p.tables e below G (T.setTop (mkF m pc ls (.int j :: .ref a :: st))) := by
  subst hp
  obtain ⟨cl, A, q1, S1, q3, H1, G1⟩ := V
  exact Go.via (fun t k => P.1.daload P.q.2.1 (j := j) (v := v) (by rw [P.heap]; exact A.1) (State.isArrayOf_alike P.hz.alike A.2.1) A.2.2 (fun y => y.elim hj (fun y => by rw [S1] at y; omega)) (by rw [← hv]; exact H1 _ (by rw [S1]; exact hz)) (g := mkF m pc ls (.int j :: .ref a :: st)) rfl rfl (hb P.q.2.2 hd) t k) K
theorem Pos.ldF (P : Pos p l e R s m args below meth c code Z EL wl hS own vm0 T locs cells slots h) {a : Addr} {k : ClassId} {z j : Int32} {vs : List Value} {d v : Value} (V : Arv Z h a k .float z vs d) (hj : ¬ j < 0) (hz : j.toNatClampNeg < z.toNatClampNeg) (hv : vs.getD j.toNatClampNeg d = v) (hd : decode code pc = .ok (.faload, 1)) (hp : pc + 1 = pc1) (K : Go p.tables e below G (T.setTop (mkF m pc1 ls (v :: st)))) : Go p.tables e below G (T.setTop (mkF m pc ls (.int j :: .ref a :: st))) := by
  subst hp
  obtain ⟨cl, A, q1, S1, q3, H1, G1⟩ := V
  exact Go.via (fun t k => P.1.faload P.q.2.1 (j := j) (v := v) (by rw [P.heap]; exact A.1) (State.isArrayOf_alike P.hz.alike A.2.1) A.2.2 (fun y => y.elim hj (fun y => by rw [S1] at y; omega)) (by rw [← hv]; exact H1 _ (by rw [S1]; exact hz)) (g := mkF m pc ls (.int j :: .ref a :: st)) rfl rfl (hb P.q.2.2 hd) t k) K
theorem Pos.ldR (P : Pos p l e R s m args below meth c code Z EL wl hS own vm0 T locs cells slots h) {a : Addr} {k : ClassId} {ty : FieldType} {z j : Int32} {vs : List Value} {d v : Value} (V : Arv Z h a k ty z vs d) (hty : ty.isReference = true) (hj : ¬ j < 0) (hz : j.toNatClampNeg < z.toNatClampNeg) (hv : vs.getD j.toNatClampNeg d = v) (hd : decode code pc = .ok (.aaload, 1)) (hp : pc + 1 = pc1) (K : Go p.tables e below G (T.setTop (mkF m pc1 ls (v :: st)))) : Go p.tables e below G (T.setTop (mkF m pc ls (.int j :: .ref a :: st))) := by
  subst hp
  obtain ⟨cl, A, q1, S1, q3, H1, G1⟩ := V
  exact Go.via (fun t k => P.1.aaload P.q.2.1 (j := j) (v := v) (by rw [P.heap]; exact A.1) (State.isArrayOf_alike P.hz.alike A.2.1) hty A.2.2 (fun y => y.elim hj (fun y => by rw [S1] at y; omega)) (by rw [← hv]; exact H1 _ (by rw [S1]; exact hz)) (g := mkF m pc ls (.int j :: .ref a :: st)) rfl rfl (hb P.q.2.2 hd) t k) K
theorem Pos.cloneR (P : Pos p l e R s m args below meth c code Z EL wl hS own vm0 T locs cells slots h) {ad : String} {index : Nat} {a : Addr} {k : ClassId} {ty : FieldType} {z : Int32} {vs : List Value} {d : Value} {W cap : Nat} (w1 : (Cond.methodLink own index ⟨ad, "clone", "()Ljava/lang/Object;"⟩).before a0 Z = true) (w2 : (Cond.sameMethod ad "java/lang/Object" "clone" "()Ljava/lang/Object;").before a0 Z = true) (w3 : (Cond.native ⟨"java/lang/Object", "clone", "()Ljava/lang/Object;"⟩).before a0 Z = true) (w4 : (Cond.instanceMethod ⟨"java/lang/Object", "clone", "()Ljava/lang/Object;"⟩).before a0 Z = true) (w5 : (Cond.selects ad ⟨ad, "clone", "()Ljava/lang/Object;"⟩ ⟨"java/lang/Object", "clone", "()Ljava/lang/Object;"⟩).before a0 Z = true) (w6 : (Cond.castable ad "java/lang/Cloneable").before a0 Z = true) (V : Arv Z h a k ty z vs d) (E : Exa Z h a ad) (hsize : ls.size = c.maxLocals) (hf : 1 ≤ R.frames) (hW : (st.map fun v => v.category).sum ≤ W) (hl : W + 14 ≤ R.locals) (hcap : z.toNatClampNeg ≤ cap) (hc : cells + 1 ≤ R.cells) (hsl : slots + cap ≤ R.slots) (hd : decode code pc = .ok (.invokevirtual index, 3)) (hp : pc + 3 = pc1) (K : ∀ (T' : State) (h' : Heap) (x : Addr), x = h.size → Pos p l e R s m args below meth c code Z EL wl hS own vm0 T' locs (cells + 1) (slots + cap) h' → Ext h h' → Arv Z h' x k ty z vs d → Exa Z h' x ad → Go p.tables e below G (T'.setTop (mkF m pc1 ls (.ref x :: st)))) : Go p.tables e below G (T.setTop (mkF m pc ls (.ref a :: st))) := by
  subst hp
  obtain ⟨T', h', X', e', E', A', Ex', stp⟩ := RoadKit.cloneH P.1 P.q.2.1 P.hz P.2.2.2.2.1 w1 w2 w3 w4 w5 w6 P.heap V.arh E (g := mkF m pc ls (.ref a :: st)) rfl hsize rfl (hb P.q.2.2 hd) hf (W := W) (by show 2 * 0 + _ ≤ _; omega) hl hcap hc hsl
  exact Go.via stp (K T' h' _ rfl (P.grown X' e' E') E' A' Ex')
theorem Pos.len (P : Pos p l e R s m args below meth c code Z EL wl hS own vm0 T locs cells slots h) {a : Addr} {k : ClassId} {ty : FieldType} {z : Int32} {vs : List Value} {d : Value} (V : Arv Z h a k ty z vs d) (hd : decode code pc = .ok (.arraylength, 1)) (hp : pc + 1 = pc1) (K : Go p.tables e below G (T.setTop (mkF m pc1 ls (.int z :: st)))) : Go p.tables e below G (T.setTop (mkF m pc ls (.ref a :: st))) := by
  subst hp
  obtain ⟨cl, A, q1, S1, q3, H1, G1⟩ := V
  rw [← len_of S1 q3] at K
  exact Go.via (fun t k => P.1.arraylength P.q.2.1 (cell := cl) (by rw [P.heap]; exact A.1) (State.isArrayOf_alike P.hz.alike A.2.1) (g := mkF m pc ls (.ref a :: st)) rfl (rest := st) rfl (hb P.q.2.2 hd) t k) K
theorem Pos.initO (P : Pos p l e R s m args below meth c code Z EL wl hS own vm0 T locs cells slots h) {idx : Nat} {a : Addr} {W : Nat} (w1 : (Cond.methodLink own idx Lib.objectInit).before a0 Z = true) (w2 : (Cond.instanceMethod Lib.objectInit).before a0 Z = true) (w3 : (Cond.code Lib.objectInit ⟨#[0xb1]⟩ 1 none).before a0 Z = true) (hsize : ls.size = c.maxLocals) (hf : 1 ≤ R.frames) (hW : (st.map fun v => v.category).sum ≤ W) (hl : W + 12 ≤ R.locals) (hd : decode code pc = .ok (.invokespecial idx, 3)) (hp : pc + 3 = pc1) (K : ∀ (T' : State), Pos p l e R s m args below meth c code Z EL wl hS own vm0 T' locs cells slots h → Go p.tables e below G (T'.setTop (mkF m pc1 ls st))) : Go p.tables e below G (T.setTop (mkF m pc ls (.ref a :: st))) := by
  subst hp
  obtain ⟨T', X', e', stp⟩ := RoadKit.initO P.1 P.q.2.1 P.hz P.2.2.2.2.1 w1 w2 w3 P.heap (g := mkF m pc ls (.ref a :: st)) rfl hsize rfl (hb P.q.2.2 hd) hf (W := W) (by show 2 * 0 + _ ≤ _; omega) hl
  exact Go.via stp (K T' (P.same X' e'))
theorem Pos.castY (P : Pos p l e R s m args below meth c code Z EL wl hS own vm0 T locs cells slots h) {C : String} {index : Nat} {a : Addr} (w : (Cond.classLink own index C).before a0 Z = true) (F : Ins Z h a C true) (hd : decode code pc = .ok (.checkcast index, 3)) (hp : pc + 3 = pc1) (K : ∀ (T' : State), Pos p l e R s m args below meth c code Z EL wl hS own vm0 T' locs cells slots h → Go p.tables e below G (T'.setTop (mkF m pc1 ls (.ref a :: st)))) : Go p.tables e below G (T.setTop (mkF m pc ls (.ref a :: st))) := by
  subst hp
  obtain ⟨T', X', e', stp⟩ := RoadKit.castY P.1 P.q.2.1 P.hz P.2.2.2.2.1 w P.heap F (g := mkF m pc ls (.ref a :: st)) rfl rfl (hb P.q.2.2 hd)
  exact Go.via stp (K T' (P.same X' e'))
theorem Pos.instY (P : Pos p l e R s m args below meth c code Z EL wl hS own vm0 T locs cells slots h) {C : String} {index : Nat} {a : Addr} (w : (Cond.classLink own index C).before a0 Z = true) (F : Ins Z h a C true) (hd : decode code pc = .ok (.instanceof index, 3)) (hp : pc + 3 = pc1) (K : ∀ (T' : State), Pos p l e R s m args below meth c code Z EL wl hS own vm0 T' locs cells slots h → Go p.tables e below G (T'.setTop (mkF m pc1 ls (.int 1 :: st)))) : Go p.tables e below G (T.setTop (mkF m pc ls (.ref a :: st))) := by
  subst hp
  obtain ⟨T', X', e', stp⟩ := RoadKit.instY P.1 P.q.2.1 P.hz P.2.2.2.2.1 w P.heap F (g := mkF m pc ls (.ref a :: st)) rfl rfl (hb P.q.2.2 hd)
  exact Go.via stp (K T' (P.same X' e'))
theorem Pos.instNull (P : Pos p l e R s m args below meth c code Z EL wl hS own vm0 T locs cells slots h) {index : Nat} (hd : decode code pc = .ok (.instanceof index, 3)) (hp : pc + 3 = pc1) (K : Go p.tables e below G (T.setTop (mkF m pc1 ls (.int 0 :: st)))) : Go p.tables e below G (T.setTop (mkF m pc ls (.null :: st))) := by
  subst hp; exact Go.via (P.1.instanceofNull P.q.2.1 (g := mkF m pc ls (.null :: st)) rfl rfl (hb P.q.2.2 hd)) K
theorem Pos.castNull (P : Pos p l e R s m args below meth c code Z EL wl hS own vm0 T locs cells slots h) {index : Nat} (hd : decode code pc = .ok (.checkcast index, 3)) (hp : pc + 3 = pc1) (K : Go p.tables e below G (T.setTop (mkF m pc1 ls (.null :: st)))) : Go p.tables e below G (T.setTop (mkF m pc ls (.null :: st))) := by
  subst hp; exact Go.via (P.1.checkcastNull P.q.2.1 (g := mkF m pc ls (.null :: st)) rfl rfl (hb P.q.2.2 hd)) K
theorem Pos.instNo (P : Pos p l e R s m args below meth c code Z EL wl hS own vm0 T locs cells slots h) {C D : String} {index : Nat} {a : Addr} (w : (Cond.classLink own index C).before a0 Z = true) (E : Exa Z h a D) (F : ∃ c t, Z.vm.findClass D = some c ∧ Z.vm.findClass C = some t ∧ Z.vm.assignable c t = false) (hd : decode code pc = .ok (.instanceof index, 3)) (hp : pc + 3 = pc1) (K : ∀ (T' : State), Pos p l e R s m args below meth c code Z EL wl hS own vm0 T' locs cells slots h → Go p.tables e below G (T'.setTop (mkF m pc1 ls (.int 0 :: st)))) : Go p.tables e below G (T.setTop (mkF m pc ls (.ref a :: st))) := by
  subst hp
  obtain ⟨T', X', e', stp⟩ := RoadKit.instNo P.1 P.q.2.1 P.hz P.2.2.2.2.1 w P.heap E F (g := mkF m pc ls (.ref a :: st)) rfl rfl (hb P.q.2.2 hd)
  exact Go.via stp (K T' (P.same X' e'))
theorem Pos.exc1 (P : Pos p l e R s m args below meth c code Z EL wl hS own vm0 T locs cells slots h) (htr : l.stackTraces = true) {rc : String} {links : List Jvm.Free.Exc.Link} {ic n : Nat} (hok : Jvm.Free.Exc.linksOk 1 links = true) (w1 : (Cond.methodLink own ic (Jvm.Free.Exc.ctor 1 (Jvm.Free.Exc.headName links))).before a0 Z = true) (w2 : (Cond.instanceMethod (Jvm.Free.Exc.ctor 1 (Jvm.Free.Exc.headName links))).before a0 Z = true) (wT : (Jvm.Free.Exc.chainTab 1 rc links).before a0 Z = true) (wi : (Cond.instantiable rc n).before a0 Z = true) (r : ∀ d ∈ twoRefs, d.before a0 Z = true)
    (hT0 : ThS Z hS) (hT : ThS Z h) (hTK : vm0.MethodsKnown) (hBelow : vm0.FramesKnown below) {a : Addr} (E : Exa Z h a rc) (N : Unt h a) (B : Fld Z h a Bundle.tN "backtrace" Jvm.Free.Exc.obD .null) (B2 : Fld Z h a Bundle.tN "detailMessage" Jvm.Free.Exc.msgD .null) {msg : Value} (hmsg : msg.isRef = true) (ga : a ∈ wl ∨ hS.size ≤ a) (S : Safe Z EL vm0 h a)
    (hsize : ls.size = c.maxLocals) {W : Nat} (hW : (st.map fun v => v.category).sum ≤ W) (hf : 4 + links.length ≤ R.frames) (hlo : W + (56 + 14 * links.length) ≤ R.locals) (hc : cells + 1 ≤ R.cells) (hsl : slots + 2752 ≤ R.slots) (hd : decode code pc = .ok (.invokespecial ic, 3)) (hp : pc + 3 = pc1)
    (K : ∀ (T' : State) (h' : Heap), Pos p l e R s m args below meth c code Z EL wl hS own vm0 T' (locs ++ sixLocs Z a) (cells + 1) (slots + 2752) h' → Kp Z h h' a → Exa Z h' a rc → Unt h' a → Fld Z h' a Bundle.tN "detailMessage" Jvm.Free.Exc.msgD msg → ThS Z h' → Go p.tables e below G (T'.setTop (mkF m pc1 ls st))) : Go p.tables e below G (T.setTop (mkF m pc ls (msg :: .ref a :: st))) := by
  subst hp
  obtain ⟨T', h', X', e', K', E', N', M', -, hT', stp⟩ := RoadKit.excL1 P.1 P.q.2.1 htr P.hz P.2.2.2.2.1 hok w1 w2 wT wi r (by have q := P.2.2.2.2.2.2.1; show ThS Z s.heap; rw [q]; exact hT0) hT hTK hBelow P.heap E N B B2 hmsg (g := mkF m pc ls (msg :: .ref a :: st)) rfl hsize rfl (hb P.q.2.2 hd) hf (by show 2 * 0 + _ + _ ≤ _; omega) hc hsl
  refine Go.via stp (K T' h' ?_ K' E' N' M' hT')
  have C' : CHr Z EL vm0 h vm0 h' := CHr.keep (keep_of_kp K') (sfS S sf0) P.chv
  obtain ⟨X, eT, hsi, hZ, hown, N, n1, C, hx, hby⟩ := P; obtain ⟨k0, q1, q2⟩ := hsi
  exact ⟨X', e', ⟨k0, q1, Nat.le_trans q2 C'.2.1⟩, hZ, hown, N.app (fun y hy => by obtain ⟨nd, -, rfl⟩ := List.mem_map.mp hy; exact ga), n1, C.trans C', hx, hby⟩
theorem Pos.alS (P : Pos p l e R s m args below meth c code Z EL wl hS own vm0 T locs cells slots h) : s.vm.Alike vm0 := by obtain ⟨k0, q1, q2⟩ := P.2.2.1; exact q1.1.alike
theorem Pos.ldcI (P : Pos p l e R s m args below meth c code Z EL wl hS own vm0 T locs cells slots h) {index : Nat} {v : Int32} (w : (Cond.constant own index v).before a0 Z = true) (hd : decode code pc = .ok (.ldc index, 2)) (hp : pc + 2 = pc1) (K : Go p.tables e below G (T.setTop (mkF m pc1 ls (.int v :: st)))) : Go p.tables e below G (T.setTop (mkF m pc ls st)) := by
  subst hp; exact Go.via (P.1.ldcInt P.q.2.1 P.2.2.2.2.1 (mvT P.hz w) (g := mkF m pc ls st) rfl (hb P.q.2.2 hd)) K
theorem Pos.ldc2J (P : Pos p l e R s m args below meth c code Z EL wl hS own vm0 T locs cells slots h) {index : Nat} {v : Int64} (w : (Cond.constantLong own index v).before a0 Z = true) (hd : decode code pc = .ok (.ldc2_w index, 3)) (hp : pc + 3 = pc1) (K : Go p.tables e below G (T.setTop (mkF m pc1 ls (.long v :: st)))) : Go p.tables e below G (T.setTop (mkF m pc ls st)) := by
  subst hp; exact Go.via (P.1.ldc2Long P.q.2.1 P.2.2.2.2.1 (mvT P.hz w) (g := mkF m pc ls st) rfl (hb P.q.2.2 hd)) K
theorem Pos.ldcF (P : Pos p l e R s m args below meth c code Z EL wl hS own vm0 T locs cells slots h) {index : Nat} {v : UInt32} (w : (Cond.constantFloat own index v).before a0 Z = true) (hd : decode code pc = .ok (.ldc index, 2)) (hp : pc + 2 = pc1) (K : Go p.tables e below G (T.setTop (mkF m pc1 ls (.float v :: st)))) : Go p.tables e below G (T.setTop (mkF m pc ls st)) := by
  subst hp; exact Go.via (P.1.ldcFloatC P.q.2.1 P.2.2.2.2.1 (mvT P.hz w) (g := mkF m pc ls st) rfl (hb P.q.2.2 hd)) K
theorem Pos.ldc2D (P : Pos p l e R s m args below meth c code Z EL wl hS own vm0 T locs cells slots h) {index : Nat} {v : UInt64} (w : (Cond.constantDouble own index v).before a0 Z = true) (hd : decode code pc = .ok (.ldc2_w index, 3)) (hp : pc + 3 = pc1) (K : Go p.tables e below G (T.setTop (mkF m pc1 ls (.double v :: st)))) : Go p.tables e below G (T.setTop (mkF m pc ls st)) := by
  subst hp; exact Go.via (P.1.ldc2DoubleC P.q.2.1 P.2.2.2.2.1 (mvT P.hz w) (g := mkF m pc ls st) rfl (hb P.q.2.2 hd)) K
theorem Pos.ldcO (P : Pos p l e R s m args below meth c code Z EL wl hS own vm0 T locs cells slots h) {index : Nat} {text : String} {n : Nat} (w : (Cond.stringLink own index text).before a0 Z = true) (wS : ∀ a ∈ Bundle.stringAtoms, a.before a0 Z = true) (hEL : EW Z a0 EL) (hn : 4 * text.toList.length ≤ n) (hbig : n ≤ 536870912) (hc : cells + 2 ≤ R.cells) (hl : slots + (n + 4) ≤ R.slots) (hd : decode code pc = .ok (.ldc index, 2)) (hp : pc + 2 = pc1)
    (K : ∀ (a : Addr) (T' : State) (h' : Heap), Pos p l e R s m args below meth c code Z EL wl hS own T'.vm T' locs (cells + 2) (slots + (n + 4)) h' → Ext h h' → CHr Z EL vm0 h T'.vm h' → Lit (s.setVm T'.vm) own index a → Go p.tables e below G (T'.setTop (mkF m pc1 ls (.ref a :: st)))) : Go p.tables e below G (T.setTop (mkF m pc ls st)) := by
  subst hp
  obtain ⟨X, eT, hsi, hZ, hown, N, n1, C, hx, hby⟩ := P
  obtain ⟨k0, q1, q2⟩ := hsi
  obtain ⟨a, T', h', k1, X', e', E', hS2, hk2, hW, hf, hC, hL, stp⟩ := RoadKit.ldcOH X hx hZ hown w wS eT q1 q2 hEL C.1 (g := mkF m pc ls st) rfl (hb hby hd) hn hbig hc hl
  exact Go.via stp (K a T' h' ⟨X', e', ⟨k1, hS2, hk2⟩, hW, hf, N, n1, C.trans hC, hx, hby⟩ E' hC hL)
theorem Pos.ldcR (P : Pos p l e R s m args below meth c code Z EL wl hS own vm0 T locs cells slots h) {index : Nat} {text : String} {n : Nat} (w : (Cond.stringLink own index text).before a0 Z = true) (wS : ∀ a ∈ Bundle.stringAtoms, a.before a0 Z = true) (hEL : EW Z a0 EL) (hmem : (own, index) ∈ EL) {vs : List Value} {z : Int32} (ht : (∀ c ∈ text.toList, c.toNat < 256) ∧ text.toList.map (fun c => Value.int (Jvm.Lit.byteI c.toNat.toUInt16)) = vs) (hz : ¬ z < 0) (hlz : z.toNatClampNeg = vs.length) (hn : 4 * text.toList.length ≤ n) (hbig : n ≤ 536870912) (hc : cells + 2 ≤ R.cells) (hl : slots + (n + 4) ≤ R.slots) (hd : decode code pc = .ok (.ldc index, 2)) (hp : pc + 2 = pc1)
    (K : ∀ (a : Addr) (T' : State) (h' : Heap) (b : Addr) (k : ClassId), Pos p l e R s m args below meth c code Z EL wl hS own T'.vm T' locs (cells + 2) (slots + (n + 4)) h' → Ext h h' → CHr Z EL vm0 h T'.vm h' → Exa Z h' a "java/lang/String" → Fld Z h' a "java/lang/String" "coder" "B" (.int 0) → Fld Z h' a "java/lang/String" "value" "[B" (.ref b) → Arv Z h' b k .byte z vs (.int 0) → (∀ x, Safe Z EL T'.vm h' x → x ≠ a ∧ x ≠ b) → Lit (s.setVm T'.vm) own index a → Go p.tables e below G (T'.setTop (mkF m pc1 ls (.ref a :: st)))) : Go p.tables e below G (T.setTop (mkF m pc ls st)) := by
  subst hp
  obtain ⟨X, eT, hsi, hZ, hown, N, n1, C, hx, hby⟩ := P
  obtain ⟨k0, q1, q2⟩ := hsi
  obtain ⟨a, T', h', k1, b, k, X', e', E', hS2, hk2, hW, hf, y1, y2, y3, y4, -, -, hC, hL, hne, stp⟩ := RoadKit.ldcCH X hx hZ hown w wS eT q1 q2 hEL hmem C.1 ht hz hlz (g := mkF m pc ls st) rfl (hb hby hd) hn hbig hc hl
  exact Go.via stp (K a T' h' b k ⟨X', e', ⟨k1, hS2, hk2⟩, hW, hf, N, n1, C.trans hC, hx, hby⟩ E' hC y1 y2 y3 y4 hne hL)
theorem Pos.callS (P : Pos p l e R s m args below meth c code Z EL wl hS own vm0 T locs cells slots h) {index : Nat} {y : MethodName} {bytes : ByteArray} {maxL : Nat} {ret : Option FieldType} {as' : Array Value} {rc rs W : Nat} {Q : Option Value → Heap → List Loc → Prop} {argsL st0 : List Value} (w1 : (Cond.methodLink own index y).before a0 Z = true) (w2 : (Cond.static y).before a0 Z = true) (w3 : (Cond.initialized y.cls).before a0 Z = true) (w4 : (Cond.code y bytes maxL ret).before a0 Z = true) (hy : y.cls ≠ "java/lang/invoke/MethodHandle" ∧ y.cls ≠ "java/lang/invoke/VarHandle") (hK : Back l R p e below (s.setVm vm0) args y 3 W (fun A a => a = as' ∧ A.U.heap = h ∧ A.cells + rc ≤ R.cells ∧ A.slots + rs ≤ R.slots) (fun A _ v B => ∃ L, Q v B.U.heap L ∧ B.locs = A.locs ++ L ∧ B.cells = A.cells + rc ∧ B.slots = A.slots + rs)) (hlen : ∀ sig, parseMethodDescriptor y.desc = some sig → argsL.length = sig.parameters.length) (hst : st = argsL.reverse ++ st0) (has : argsL.toArray = as') (hW : (st0.map fun v => v.category).sum ≤ W) (hsize : ls.size = c.maxLocals) (hc : cells + rc ≤ R.cells) (hs : slots + rs ≤ R.slots) (hF : ∀ v h' L, Q v h' L → Frw wl hS.size L ∧ CHr Z EL vm0 h vm0 h') (hd : decode code pc = .ok (.invokestatic index, 3)) (hp : pc + 3 = pc1)
    (K : ∀ (v : Option Value) (T' : State) (h' : Heap) (L : List Loc), Q v h' L → Pos p l e R s m args below meth c code Z EL wl hS own vm0 T' (locs ++ L) (cells + rc) (slots + rs) h' → Go p.tables e below G (T'.setTop (mkF m pc1 ls (v.toList ++ st0)))) : Go p.tables e below G (T.setTop (mkF m pc ls st)) := by
  subst hp
  obtain ⟨v, vm₁, ⟨U, Lx, cx, sx⟩, -, X', ⟨L, hQ, l1, l2, l3⟩, stp⟩ := Jvm.LawKit.callS P.1 P.q.2.1 P.2.2.2.2.1 (mvT P.hz w1) (mvT P.hz w2) (mvT P.hz w3) (mvT P.hz w4) hy hK (g := mkF m pc ls st) rfl hsize (argsL := argsL) (rest := st0) hlen hst (by show 2 * 0 + _ ≤ _; omega) (hb P.q.2.2 hd) (fun _ _ => ⟨has, P.heap, hc, hs⟩)
  dsimp only [Pt.U, Pt.locs, Pt.cells, Pt.slots] at *
  subst l1 l2 l3
  exact Go.via stp (K v U _ L hQ (P.came X' (hF _ _ _ hQ).1 (hF _ _ _ hQ).2))
theorem Pos.callN (P : Pos p l e R s m args below meth c code Z EL wl hS own vm0 T locs cells slots h) {index : Nat} {y : MethodName} {bytes : ByteArray} {maxL : Nat} {x : Addr} {as' : Array Value} {rc rs W : Nat} {Q : Option Value → Heap → List Loc → Prop} {argsL st0 : List Value} (hy1 : y.name = "<init>") (w1 : (Cond.methodLink own index y).before a0 Z = true) (w2 : (Cond.instanceMethod y).before a0 Z = true) (w4 : (Cond.code y bytes maxL none).before a0 Z = true) (hy : y.cls ≠ "java/lang/invoke/MethodHandle" ∧ y.cls ≠ "java/lang/invoke/VarHandle") (hK : Back l R p e below (s.setVm vm0) args y 3 W (fun A a => a = as' ∧ A.U.heap = h ∧ A.cells + rc ≤ R.cells ∧ A.slots + rs ≤ R.slots) (fun A _ v B => ∃ L, Q v B.U.heap L ∧ B.locs = A.locs ++ L ∧ B.cells = A.cells + rc ∧ B.slots = A.slots + rs)) (hlen : ∀ sig, parseMethodDescriptor y.desc = some sig → argsL.length = sig.parameters.length) (hst : st = argsL.reverse ++ .ref x :: st0) (has : (.ref x :: argsL).toArray = as') (hW : (st0.map fun v => v.category).sum ≤ W) (hsize : ls.size = c.maxLocals) (hc : cells + rc ≤ R.cells) (hs : slots + rs ≤ R.slots) (hF : ∀ v h' L, Q v h' L → Frw wl hS.size L ∧ CHr Z EL vm0 h vm0 h') (hd : decode code pc = .ok (.invokespecial index, 3)) (hp : pc + 3 = pc1)
    (K : ∀ (v : Option Value) (T' : State) (h' : Heap) (L : List Loc), Q v h' L → Pos p l e R s m args below meth c code Z EL wl hS own vm0 T' (locs ++ L) (cells + rc) (slots + rs) h' → Go p.tables e below G (T'.setTop (mkF m pc1 ls (v.toList ++ st0)))) : Go p.tables e below G (T.setTop (mkF m pc ls st)) := by
  subst hp
  obtain ⟨v, vm₁, ⟨U, Lx, cx, sx⟩, -, X', ⟨L, hQ, l1, l2, l3⟩, stp⟩ := Stand.specialBack P.1 P.q.2.1 hy1 P.2.2.2.2.1 (mvT P.hz w1) (mvT P.hz w2) (mvT P.hz w4) hy hK (g := mkF m pc ls st) rfl hsize (Steps.refl _) (a := x) (argsL := argsL) (rest := st0) hlen hst (by show 2 * 0 + _ ≤ _; omega) (hb P.q.2.2 hd) (fun _ _ => ⟨has, P.heap, hc, hs⟩)
  dsimp only [Pt.U, Pt.locs, Pt.cells, Pt.slots] at *
  subst l1 l2 l3
  exact Go.tr stp (K v U _ L hQ (P.came X' (hF _ _ _ hQ).1 (hF _ _ _ hQ).2))
theorem Pos.callV (P : Pos p l e R s m args below meth c code Z EL wl hS own vm0 T locs cells slots h) {index : Nat} {y z : MethodName} {x : Addr} {C : String} {as' : Array Value} {rc rs W : Nat} {Q : Option Value → Heap → List Loc → Prop} {argsL st0 : List Value} (E : Exa Z h x C) (w1 : (Cond.methodLink own index y).before a0 Z = true) (w2 : (Cond.declares y).before a0 Z = true) (w3 : (Cond.selects C y z).before a0 Z = true) (w4 : (Cond.instanceMethod z).before a0 Z = true) (nf : NotFace (s.setVm vm0) y) (hy : y.cls ≠ "java/lang/invoke/MethodHandle" ∧ y.cls ≠ "java/lang/invoke/VarHandle") (hK : Back l R p e below (s.setVm vm0) args z 3 W (fun A a => a = as' ∧ A.U.heap = h ∧ A.cells + rc ≤ R.cells ∧ A.slots + rs ≤ R.slots) (fun A _ v B => ∃ L, Q v B.U.heap L ∧ B.locs = A.locs ++ L ∧ B.cells = A.cells + rc ∧ B.slots = A.slots + rs)) (hlen : ∀ sig, parseMethodDescriptor y.desc = some sig → argsL.length = sig.parameters.length) (hst : st = argsL.reverse ++ .ref x :: st0) (has : (.ref x :: argsL).toArray = as') (hW : (st0.map fun v => v.category).sum ≤ W) (hsize : ls.size = c.maxLocals) (hc : cells + rc ≤ R.cells) (hs : slots + rs ≤ R.slots) (hF : ∀ v h' L, Q v h' L → Frw wl hS.size L ∧ CHr Z EL vm0 h vm0 h') (hd : decode code pc = .ok (.invokevirtual index, 3)) (hp : pc + 3 = pc1)
    (K : ∀ (v : Option Value) (T' : State) (h' : Heap) (L : List Loc), Q v h' L → Pos p l e R s m args below meth c code Z EL wl hS own vm0 T' (locs ++ L) (cells + rc) (slots + rs) h' → Go p.tables e below G (T'.setTop (mkF m pc1 ls (v.toList ++ st0)))) : Go p.tables e below G (T.setTop (mkF m pc ls st)) := by
  subst hp
  obtain ⟨cq, kq, qa, qb, qc⟩ := isOf P.hz P.heap E
  obtain ⟨v, vm₁, ⟨U, Lx, cx, sx⟩, -, X', ⟨L, hQ, l1, l2, l3⟩, stp⟩ := Stand.virtualBack P.1 P.q.2.1 (y := y) (z := z) P.2.2.2.2.1 (mvT P.hz w1) (mvT P.hz w2) nf (mvT P.hz w3) (mvT P.hz w4) hy hK qa qc (g := mkF m pc ls st) rfl hsize (Steps.refl _) (argsL := argsL) (rest := st0) hlen hst (by show 2 * 0 + _ ≤ _; omega) (hb P.q.2.2 hd) (fun _ _ => ⟨has, P.heap, hc, hs⟩)
  dsimp only [Pt.U, Pt.locs, Pt.cells, Pt.slots] at *
  subst l1 l2 l3
  exact Go.tr stp (K v U _ L hQ (P.came X' (hF _ _ _ hQ).1 (hF _ _ _ hQ).2))
theorem Pos.callVU (P : Pos p l e R s m args below meth c code Z EL wl hS own vm0 T locs cells slots h) {index : Nat} {y z : MethodName} {x : Addr} {C owner : String} {as' : Array Value} {rc rs W : Nat} {Q : Option Value → Heap → List Loc → Prop} {argsL st0 : List Value} (E : Exa Z h x C) (w1 : (Cond.methodLink own index y).before a0 Z = true) (w2 : (Cond.sameMethod y.cls owner y.name y.desc).before a0 Z = true) (w5 : (Cond.declares ⟨owner, y.name, y.desc⟩).before a0 Z = true) (hy : owner ≠ "java/lang/invoke/MethodHandle" ∧ owner ≠ "java/lang/invoke/VarHandle") (w3 : (Cond.selects C y z).before a0 Z = true) (w4 : (Cond.instanceMethod z).before a0 Z = true) (hK : Back l R p e below (s.setVm vm0) args z 3 W (fun A a => a = as' ∧ A.U.heap = h ∧ A.cells + rc ≤ R.cells ∧ A.slots + rs ≤ R.slots) (fun A _ v B => ∃ L, Q v B.U.heap L ∧ B.locs = A.locs ++ L ∧ B.cells = A.cells + rc ∧ B.slots = A.slots + rs)) (hlen : ∀ sig, parseMethodDescriptor y.desc = some sig → argsL.length = sig.parameters.length) (hst : st = argsL.reverse ++ .ref x :: st0) (has : (.ref x :: argsL).toArray = as') (hW : (st0.map fun v => v.category).sum ≤ W) (hsize : ls.size = c.maxLocals) (hc : cells + rc ≤ R.cells) (hs : slots + rs ≤ R.slots) (hF : ∀ v h' L, Q v h' L → Frw wl hS.size L ∧ CHr Z EL vm0 h vm0 h') (hd : decode code pc = .ok (.invokevirtual index, 3)) (hp : pc + 3 = pc1)
    (K : ∀ (v : Option Value) (T' : State) (h' : Heap) (L : List Loc), Q v h' L → Pos p l e R s m args below meth c code Z EL wl hS own vm0 T' (locs ++ L) (cells + rc) (slots + rs) h' → Go p.tables e below G (T'.setTop (mkF m pc1 ls (v.toList ++ st0)))) : Go p.tables e below G (T.setTop (mkF m pc ls st)) := by
  subst hp
  obtain ⟨cq, kq, qa, qb, qc⟩ := isOf P.hz P.heap E
  obtain ⟨v, vm₁, ⟨U, Lx, cx, sx⟩, -, X', ⟨L, hQ, l1, l2, l3⟩, stp⟩ := Stand.virtualBackUp P.1 P.q.2.1 (x := y) (y := z) P.2.2.2.2.1 (mvT P.hz w1) (mvT P.hz w2) (mvT P.hz w5) hy (mvT P.hz w3) (mvT P.hz w4) hK qa qc (g := mkF m pc ls st) rfl hsize (Steps.refl _) (argsL := argsL) (rest := st0) hlen hst (by show 2 * 0 + _ ≤ _; omega) (hb P.q.2.2 hd) (fun _ _ => ⟨has, P.heap, hc, hs⟩)
  dsimp only [Pt.U, Pt.locs, Pt.cells, Pt.slots] at *
  subst l1 l2 l3
  exact Go.tr stp (K v U _ L hQ (P.came X' (hF _ _ _ hQ).1 (hF _ _ _ hQ).2))
theorem Pos.callI (P : Pos p l e R s m args below meth c code Z EL wl hS own vm0 T locs cells slots h) {index count : Nat} {xi y : MethodName} {x : Addr} {C : String} {as' : Array Value} {rc rs W : Nat} {Q : Option Value → Heap → List Loc → Prop} {argsL st0 : List Value} (E : Exa Z h x C) (w1 : (Cond.methodLink own index xi).before a0 Z = true) (w2 : (Cond.declares xi).before a0 Z = true) (w3 : (Cond.interfaceMethod xi.cls xi.cls xi.name xi.desc).before a0 Z = true) (h3 : ((Cond.interfaceMethod xi.cls xi.cls xi.name xi.desc).onTables && (Cond.interfaceMethod xi.cls xi.cls xi.name xi.desc).keepsFace) = true) (w4 : (Cond.selects C xi y).before a0 Z = true) (w5 : (Cond.instanceMethod y).before a0 Z = true) (w6 : (Cond.publicMethod y).before a0 Z = true) (w7 : (Cond.unhidden C xi.name xi.desc).before a0 Z = true) (w8 : (Cond.castable C xi.cls).before a0 Z = true) (hy : xi.cls ≠ "java/lang/invoke/MethodHandle" ∧ xi.cls ≠ "java/lang/invoke/VarHandle") (hK : Back l R p e below (s.setVm vm0) args y 5 W (fun A a => a = as' ∧ A.U.heap = h ∧ A.cells + rc ≤ R.cells ∧ A.slots + rs ≤ R.slots) (fun A _ v B => ∃ L, Q v B.U.heap L ∧ B.locs = A.locs ++ L ∧ B.cells = A.cells + rc ∧ B.slots = A.slots + rs)) (hlen : ∀ sig, parseMethodDescriptor xi.desc = some sig → argsL.length = sig.parameters.length) (hst : st = argsL.reverse ++ .ref x :: st0) (has : (.ref x :: argsL).toArray = as') (hW : (st0.map fun v => v.category).sum ≤ W) (hsize : ls.size = c.maxLocals) (hc : cells + rc ≤ R.cells) (hs : slots + rs ≤ R.slots) (hF : ∀ v h' L, Q v h' L → Frw wl hS.size L ∧ CHr Z EL vm0 h vm0 h') (hd : decode code pc = .ok (.invokeinterface index count, 5)) (hp : pc + 5 = pc1)
    (K : ∀ (v : Option Value) (T' : State) (h' : Heap) (L : List Loc), Q v h' L → Pos p l e R s m args below meth c code Z EL wl hS own vm0 T' (locs ++ L) (cells + rc) (slots + rs) h' → Go p.tables e below G (T'.setTop (mkF m pc1 ls (v.toList ++ st0)))) : Go p.tables e below G (T.setTop (mkF m pc ls st)) := by
  subst hp
  obtain ⟨cq, kq, qa, qb, qc⟩ := isOf P.hz P.heap E
  obtain ⟨v, vm₁, ⟨U, Lx, cx, sx⟩, -, X', ⟨L, hQ, l1, l2, l3⟩, stp⟩ := Stand.interfaceBack P.1 P.q.2.1 P.2.2.2.2.1 (mvT P.hz w1) (mvT P.hz w2) (mvT P.hz w3 h3) (mvT P.hz w4) (mvT P.hz w5) (mvT P.hz w6) (mvT P.hz w7) (mvT P.hz w8) hy hK qa qb qc (g := mkF m pc ls st) rfl hsize (Steps.refl _) (argsL := argsL) (rest := st0) hlen hst (by show 2 * 0 + _ ≤ _; omega) (hb P.q.2.2 hd) (fun _ _ => ⟨has, P.heap, hc, hs⟩)
  dsimp only [Pt.U, Pt.locs, Pt.cells, Pt.slots] at *
  subst l1 l2 l3
  exact Go.tr stp (K v U _ L hQ (P.came X' (hF _ _ _ hQ).1 (hF _ _ _ hQ).2))
theorem Pos.callU (P : Pos p l e R s m args below meth c code Z EL wl hS own vm0 T locs cells slots h) {index : Nat} {y : MethodName} {bytes : ByteArray} {maxL : Nat} {ret : Option FieldType} {x : Addr} {C : String} {as' : Array Value} {rc rs W : Nat} {Q : Option Value → Heap → List Loc → Prop} {argsL st0 : List Value} (E : Ins Z h x C true) (w1 : (Cond.methodLink own index y).before a0 Z = true) (w2 : (Cond.sameMethod y.cls y.cls y.name y.desc).before a0 Z = true) (w3 : (Cond.instanceMethod y).before a0 Z = true) (w4 : (Cond.superclass own y.cls).before a0 Z = true) (hn : y.name ≠ "<init>") (wc : (Cond.code y bytes maxL ret).before a0 Z = true) (hK : Back l R p e below (s.setVm vm0) args y 3 W (fun A a => a = as' ∧ A.U.heap = h ∧ A.cells + rc ≤ R.cells ∧ A.slots + rs ≤ R.slots) (fun A _ v B => ∃ L, Q v B.U.heap L ∧ B.locs = A.locs ++ L ∧ B.cells = A.cells + rc ∧ B.slots = A.slots + rs)) (hlen : ∀ sig, parseMethodDescriptor y.desc = some sig → argsL.length = sig.parameters.length) (hst : st = argsL.reverse ++ .ref x :: st0) (has : (.ref x :: argsL).toArray = as') (hW : (st0.map fun v => v.category).sum ≤ W) (hsize : ls.size = c.maxLocals) (hc : cells + rc ≤ R.cells) (hs : slots + rs ≤ R.slots) (hF : ∀ v h' L, Q v h' L → Frw wl hS.size L ∧ CHr Z EL vm0 h vm0 h') (hd : decode code pc = .ok (.invokespecial index, 3)) (hp : pc + 3 = pc1)
    (K : ∀ (v : Option Value) (T' : State) (h' : Heap) (L : List Loc), Q v h' L → Pos p l e R s m args below meth c code Z EL wl hS own vm0 T' (locs ++ L) (cells + rc) (slots + rs) h' → Go p.tables e below G (T'.setTop (mkF m pc1 ls (v.toList ++ st0)))) : Go p.tables e below G (T.setTop (mkF m pc ls st)) := by
  subst hp
  obtain ⟨v, vm₁, ⟨U, Lx, cx, sx⟩, -, X', ⟨L, hQ, l1, l2, l3⟩, stp⟩ := RoadKit.superBack P.1 P.q.2.1 P.hz P.2.2.2.2.1 w1 w2 w3 w4 hn hK P.heap E (g := mkF m pc ls st) rfl hsize wc (argsL := argsL) (rest := st0) hlen hst (by show 2 * 0 + _ ≤ _; omega) (hb P.q.2.2 hd) (fun _ _ => ⟨has, P.heap, hc, hs⟩)
  dsimp only [Pt.U, Pt.locs, Pt.cells, Pt.slots] at *
  subst l1 l2 l3
  exact Go.tr stp (K v U _ L hQ (P.came X' (hF _ _ _ hQ).1 (hF _ _ _ hQ).2))
theorem Pos.callSW (P : Pos p l e R s m args below meth c code Z EL wl hS own vm0 T locs cells slots h) {index : Nat} {y : MethodName} {bytes : ByteArray} {maxL : Nat} {ret : Option FieldType} {as' : Array Value} {rc rs W : Nat} {Q : Option Value → Heap → List Loc → Prop} {argsL st0 : List Value} (w1 : (Cond.methodLink own index y).before a0 Z = true) (w2 : (Cond.static y).before a0 Z = true) (w3 : (Cond.initialized y.cls).before a0 Z = true) (w4 : (Cond.code y bytes maxL ret).before a0 Z = true) (hy : y.cls ≠ "java/lang/invoke/MethodHandle" ∧ y.cls ≠ "java/lang/invoke/VarHandle") (hK : BackS l R p e below (s.setVm vm0) args y 3 W (fun A a => a = as' ∧ A.U.heap = h ∧ A.cells + rc ≤ R.cells ∧ A.slots + rs ≤ R.slots) (fun A _ v B => ∃ L, Q v B.U.heap L ∧ B.locs = A.locs ++ L ∧ B.cells = A.cells + rc ∧ B.slots = A.slots + rs ∧ CHr Z EL vm0 h B.U.vm B.U.heap)) (hlen : ∀ sig, parseMethodDescriptor y.desc = some sig → argsL.length = sig.parameters.length) (hst : st = argsL.reverse ++ st0) (has : argsL.toArray = as') (hW : (st0.map fun v => v.category).sum ≤ W) (hsize : ls.size = c.maxLocals) (hc : cells + rc ≤ R.cells) (hs : slots + rs ≤ R.slots) (hF : ∀ v h' L, Q v h' L → Frw wl hS.size L) (hd : decode code pc = .ok (.invokestatic index, 3)) (hp : pc + 3 = pc1)
    (K : ∀ (v : Option Value) (T' : State) (h' : Heap) (L : List Loc), Q v h' L → Pos p l e R s m args below meth c code Z EL wl hS own T'.vm T' (locs ++ L) (cells + rc) (slots + rs) h' → CHr Z EL vm0 h T'.vm h' → Go p.tables e below G (T'.setTop (mkF m pc1 ls (v.toList ++ st0)))) : Go p.tables e below G (T.setTop (mkF m pc ls st)) := by
  subst hp
  obtain ⟨v, vm₁, ⟨U, Lx, cx, sx⟩, -, X', hS', hgr, ⟨L, hQ, l1, l2, l3, hC⟩, stp⟩ := RoadKit.callSS P.1 P.q.2.1 P.2.2.2.2.1 (mvT P.hz w1) (mvT P.hz w2) (mvT P.hz w3) (mvT P.hz w4) hy hK (g := mkF m pc ls st) rfl hsize (argsL := argsL) (rest := st0) hlen hst (by show 2 * 0 + _ ≤ _; omega) (hb P.q.2.2 hd) (fun _ _ => ⟨has, P.heap, hc, hs⟩)
  dsimp only [Pt.U, Pt.locs, Pt.cells, Pt.slots] at *
  subst l1 l2 l3
  rw [P.heap] at hgr
  exact Go.tr stp (K v U _ L hQ (P.cameW X' hS' hgr (hF _ _ _ hQ) hC) hC)
theorem Pos.callNW (P : Pos p l e R s m args below meth c code Z EL wl hS own vm0 T locs cells slots h) {index : Nat} {y : MethodName} {bytes : ByteArray} {maxL : Nat} {x : Addr} {as' : Array Value} {rc rs W : Nat} {Q : Option Value → Heap → List Loc → Prop} {argsL st0 : List Value} (hy1 : y.name = "<init>") (w1 : (Cond.methodLink own index y).before a0 Z = true) (w2 : (Cond.instanceMethod y).before a0 Z = true) (w4 : (Cond.code y bytes maxL none).before a0 Z = true) (hy : y.cls ≠ "java/lang/invoke/MethodHandle" ∧ y.cls ≠ "java/lang/invoke/VarHandle") (hK : BackS l R p e below (s.setVm vm0) args y 3 W (fun A a => a = as' ∧ A.U.heap = h ∧ A.cells + rc ≤ R.cells ∧ A.slots + rs ≤ R.slots) (fun A _ v B => ∃ L, Q v B.U.heap L ∧ B.locs = A.locs ++ L ∧ B.cells = A.cells + rc ∧ B.slots = A.slots + rs ∧ CHr Z EL vm0 h B.U.vm B.U.heap)) (hlen : ∀ sig, parseMethodDescriptor y.desc = some sig → argsL.length = sig.parameters.length) (hst : st = argsL.reverse ++ .ref x :: st0) (has : (.ref x :: argsL).toArray = as') (hW : (st0.map fun v => v.category).sum ≤ W) (hsize : ls.size = c.maxLocals) (hc : cells + rc ≤ R.cells) (hs : slots + rs ≤ R.slots) (hF : ∀ v h' L, Q v h' L → Frw wl hS.size L) (hd : decode code pc = .ok (.invokespecial index, 3)) (hp : pc + 3 = pc1)
    (K : ∀ (v : Option Value) (T' : State) (h' : Heap) (L : List Loc), Q v h' L → Pos p l e R s m args below meth c code Z EL wl hS own T'.vm T' (locs ++ L) (cells + rc) (slots + rs) h' → CHr Z EL vm0 h T'.vm h' → Go p.tables e below G (T'.setTop (mkF m pc1 ls (v.toList ++ st0)))) : Go p.tables e below G (T.setTop (mkF m pc ls st)) := by
  subst hp
  obtain ⟨v, vm₁, ⟨U, Lx, cx, sx⟩, -, X', hS', hgr, ⟨L, hQ, l1, l2, l3, hC⟩, stp⟩ := Stand.specialBackS P.1 P.q.2.1 hy1 P.2.2.2.2.1 (mvT P.hz w1) (mvT P.hz w2) (mvT P.hz w4) hy hK (g := mkF m pc ls st) rfl hsize (Steps.refl _) (a := x) (argsL := argsL) (rest := st0) hlen hst (by show 2 * 0 + _ ≤ _; omega) (hb P.q.2.2 hd) (fun _ _ => ⟨has, P.heap, hc, hs⟩)
  dsimp only [Pt.U, Pt.locs, Pt.cells, Pt.slots] at *
  subst l1 l2 l3
  rw [P.heap] at hgr
  exact Go.tr stp (K v U _ L hQ (P.cameW X' hS' hgr (hF _ _ _ hQ) hC) hC)
theorem Pos.callVW (P : Pos p l e R s m args below meth c code Z EL wl hS own vm0 T locs cells slots h) {index : Nat} {y z : MethodName} {x : Addr} {C : String} {as' : Array Value} {rc rs W : Nat} {Q : Option Value → Heap → List Loc → Prop} {argsL st0 : List Value} (E : Exa Z h x C) (w1 : (Cond.methodLink own index y).before a0 Z = true) (w2 : (Cond.declares y).before a0 Z = true) (w3 : (Cond.selects C y z).before a0 Z = true) (w4 : (Cond.instanceMethod z).before a0 Z = true) (nf : NotFace (s.setVm vm0) y) (hy : y.cls ≠ "java/lang/invoke/MethodHandle" ∧ y.cls ≠ "java/lang/invoke/VarHandle") (hK : BackS l R p e below (s.setVm vm0) args z 3 W (fun A a => a = as' ∧ A.U.heap = h ∧ A.cells + rc ≤ R.cells ∧ A.slots + rs ≤ R.slots) (fun A _ v B => ∃ L, Q v B.U.heap L ∧ B.locs = A.locs ++ L ∧ B.cells = A.cells + rc ∧ B.slots = A.slots + rs ∧ CHr Z EL vm0 h B.U.vm B.U.heap)) (hlen : ∀ sig, parseMethodDescriptor y.desc = some sig → argsL.length = sig.parameters.length) (hst : st = argsL.reverse ++ .ref x :: st0) (has : (.ref x :: argsL).toArray = as') (hW : (st0.map fun v => v.category).sum ≤ W) (hsize : ls.size = c.maxLocals) (hc : cells + rc ≤ R.cells) (hs : slots + rs ≤ R.slots) (hF : ∀ v h' L, Q v h' L → Frw wl hS.size L) (hd : decode code pc = .ok (.invokevirtual index, 3)) (hp : pc + 3 = pc1)
    (K : ∀ (v : Option Value) (T' : State) (h' : Heap) (L : List Loc), Q v h' L → Pos p l e R s m args below meth c code Z EL wl hS own T'.vm T' (locs ++ L) (cells + rc) (slots + rs) h' → CHr Z EL vm0 h T'.vm h' → Go p.tables e below G (T'.setTop (mkF m pc1 ls (v.toList ++ st0)))) : Go p.tables e below G (T.setTop (mkF m pc ls st)) := by
  subst hp
  obtain ⟨cq, kq, qa, qb, qc⟩ := isOf P.hz P.heap E
  obtain ⟨v, vm₁, ⟨U, Lx, cx, sx⟩, -, X', hS', hgr, ⟨L, hQ, l1, l2, l3, hC⟩, stp⟩ := Stand.virtualBackS P.1 P.q.2.1 (y := y) (z := z) P.2.2.2.2.1 (mvT P.hz w1) (mvT P.hz w2) nf (mvT P.hz w3) (mvT P.hz w4) hy hK qa qc (g := mkF m pc ls st) rfl hsize (Steps.refl _) (argsL := argsL) (rest := st0) hlen hst (by show 2 * 0 + _ ≤ _; omega) (hb P.q.2.2 hd) (fun _ _ => ⟨has, P.heap, hc, hs⟩)
  dsimp only [Pt.U, Pt.locs, Pt.cells, Pt.slots] at *
  subst l1 l2 l3
  rw [P.heap] at hgr
  exact Go.tr stp (K v U _ L hQ (P.cameW X' hS' hgr (hF _ _ _ hQ) hC) hC)
theorem Pos.callVUW (P : Pos p l e R s m args below meth c code Z EL wl hS own vm0 T locs cells slots h) {index : Nat} {y z : MethodName} {x : Addr} {C owner : String} {as' : Array Value} {rc rs W : Nat} {Q : Option Value → Heap → List Loc → Prop} {argsL st0 : List Value} (E : Exa Z h x C) (w1 : (Cond.methodLink own index y).before a0 Z = true) (w2 : (Cond.sameMethod y.cls owner y.name y.desc).before a0 Z = true) (w5 : (Cond.declares ⟨owner, y.name, y.desc⟩).before a0 Z = true) (hy : owner ≠ "java/lang/invoke/MethodHandle" ∧ owner ≠ "java/lang/invoke/VarHandle") (w3 : (Cond.selects C y z).before a0 Z = true) (w4 : (Cond.instanceMethod z).before a0 Z = true) (hK : BackS l R p e below (s.setVm vm0) args z 3 W (fun A a => a = as' ∧ A.U.heap = h ∧ A.cells + rc ≤ R.cells ∧ A.slots + rs ≤ R.slots) (fun A _ v B => ∃ L, Q v B.U.heap L ∧ B.locs = A.locs ++ L ∧ B.cells = A.cells + rc ∧ B.slots = A.slots + rs ∧ CHr Z EL vm0 h B.U.vm B.U.heap)) (hlen : ∀ sig, parseMethodDescriptor y.desc = some sig → argsL.length = sig.parameters.length) (hst : st = argsL.reverse ++ .ref x :: st0) (has : (.ref x :: argsL).toArray = as') (hW : (st0.map fun v => v.category).sum ≤ W) (hsize : ls.size = c.maxLocals) (hc : cells + rc ≤ R.cells) (hs : slots + rs ≤ R.slots) (hF : ∀ v h' L, Q v h' L → Frw wl hS.size L) (hd : decode code pc = .ok (.invokevirtual index, 3)) (hp : pc + 3 = pc1)
    (K : ∀ (v : Option Value) (T' : State) (h' : Heap) (L : List Loc), Q v h' L → Pos p l e R s m args below meth c code Z EL wl hS own T'.vm T' (locs ++ L) (cells + rc) (slots + rs) h' → CHr Z EL vm0 h T'.vm h' → Go p.tables e below G (T'.setTop (mkF m pc1 ls (v.toList ++ st0)))) : Go p.tables e below G (T.setTop (mkF m pc ls st)) := by
  subst hp
  obtain ⟨cq, kq, qa, qb, qc⟩ := isOf P.hz P.heap E
  obtain ⟨v, vm₁, ⟨U, Lx, cx, sx⟩, -, X', hS', hgr, ⟨L, hQ, l1, l2, l3, hC⟩, stp⟩ := Stand.virtualBackUpS P.1 P.q.2.1 (x := y) (y := z) P.2.2.2.2.1 (mvT P.hz w1) (mvT P.hz w2) (mvT P.hz w5) hy (mvT P.hz w3) (mvT P.hz w4) hK qa qc (g := mkF m pc ls st) rfl hsize (Steps.refl _) (argsL := argsL) (rest := st0) hlen hst (by show 2 * 0 + _ ≤ _; omega) (hb P.q.2.2 hd) (fun _ _ => ⟨has, P.heap, hc, hs⟩)
  dsimp only [Pt.U, Pt.locs, Pt.cells, Pt.slots] at *
  subst l1 l2 l3
  rw [P.heap] at hgr
  exact Go.tr stp (K v U _ L hQ (P.cameW X' hS' hgr (hF _ _ _ hQ) hC) hC)
theorem Pos.callIW (P : Pos p l e R s m args below meth c code Z EL wl hS own vm0 T locs cells slots h) {index count : Nat} {xi y : MethodName} {x : Addr} {C : String} {as' : Array Value} {rc rs W : Nat} {Q : Option Value → Heap → List Loc → Prop} {argsL st0 : List Value} (E : Exa Z h x C) (w1 : (Cond.methodLink own index xi).before a0 Z = true) (w2 : (Cond.declares xi).before a0 Z = true) (w3 : (Cond.interfaceMethod xi.cls xi.cls xi.name xi.desc).before a0 Z = true) (h3 : ((Cond.interfaceMethod xi.cls xi.cls xi.name xi.desc).onTables && (Cond.interfaceMethod xi.cls xi.cls xi.name xi.desc).keepsFace) = true) (w4 : (Cond.selects C xi y).before a0 Z = true) (w5 : (Cond.instanceMethod y).before a0 Z = true) (w6 : (Cond.publicMethod y).before a0 Z = true) (w7 : (Cond.unhidden C xi.name xi.desc).before a0 Z = true) (w8 : (Cond.castable C xi.cls).before a0 Z = true) (hy : xi.cls ≠ "java/lang/invoke/MethodHandle" ∧ xi.cls ≠ "java/lang/invoke/VarHandle") (hK : BackS l R p e below (s.setVm vm0) args y 5 W (fun A a => a = as' ∧ A.U.heap = h ∧ A.cells + rc ≤ R.cells ∧ A.slots + rs ≤ R.slots) (fun A _ v B => ∃ L, Q v B.U.heap L ∧ B.locs = A.locs ++ L ∧ B.cells = A.cells + rc ∧ B.slots = A.slots + rs ∧ CHr Z EL vm0 h B.U.vm B.U.heap)) (hlen : ∀ sig, parseMethodDescriptor xi.desc = some sig → argsL.length = sig.parameters.length) (hst : st = argsL.reverse ++ .ref x :: st0) (has : (.ref x :: argsL).toArray = as') (hW : (st0.map fun v => v.category).sum ≤ W) (hsize : ls.size = c.maxLocals) (hc : cells + rc ≤ R.cells) (hs : slots + rs ≤ R.slots) (hF : ∀ v h' L, Q v h' L → Frw wl hS.size L) (hd : decode code pc = .ok (.invokeinterface index count, 5)) (hp : pc + 5 = pc1)
    (K : ∀ (v : Option Value) (T' : State) (h' : Heap) (L : List Loc), Q v h' L → Pos p l e R s m args below meth c code Z EL wl hS own T'.vm T' (locs ++ L) (cells + rc) (slots + rs) h' → CHr Z EL vm0 h T'.vm h' → Go p.tables e below G (T'.setTop (mkF m pc1 ls (v.toList ++ st0)))) : Go p.tables e below G (T.setTop (mkF m pc ls st)) := by
  subst hp
  obtain ⟨cq, kq, qa, qb, qc⟩ := isOf P.hz P.heap E
  obtain ⟨v, vm₁, ⟨U, Lx, cx, sx⟩, -, X', hS', hgr, ⟨L, hQ, l1, l2, l3, hC⟩, stp⟩ := Stand.interfaceBackS P.1 P.q.2.1 P.2.2.2.2.1 (mvT P.hz w1) (mvT P.hz w2) (mvT P.hz w3 h3) (mvT P.hz w4) (mvT P.hz w5) (mvT P.hz w6) (mvT P.hz w7) (mvT P.hz w8) hy hK qa qb qc (g := mkF m pc ls st) rfl hsize (Steps.refl _) (argsL := argsL) (rest := st0) hlen hst (by show 2 * 0 + _ ≤ _; omega) (hb P.q.2.2 hd) (fun _ _ => ⟨has, P.heap, hc, hs⟩)
  dsimp only [Pt.U, Pt.locs, Pt.cells, Pt.slots] at *
  subst l1 l2 l3
  rw [P.heap] at hgr
  exact Go.tr stp (K v U _ L hQ (P.cameW X' hS' hgr (hF _ _ _ hQ) hC) hC)
/-- what a body leaves, narrow: nothing interned -/
def GN (s : State) (Q : Option Value → Heap → List Loc → Prop) (rm : Room) (o : Outcome) (U : State) : Prop := ∃ v L, o = .returned v ∧ Q v U.heap L ∧ FrameEnd s o U L rm.cells rm.slots
/-- wide -/
def GW (s : State) (Z : State) (EL : List (String × Nat)) (h0 : Heap) (Q : Option Value → Heap → List Loc → Prop) (rm : Room) (o : Outcome) (U : State) : Prop := ∃ v L, o = .returned v ∧ Q v U.heap L ∧ CHr Z EL s.vm h0 U.vm U.heap ∧ ReturnedEndW s o U L rm.cells rm.slots
theorem Pos.endN {Q : Option Value → Heap → List Loc → Prop} {v : Option Value} (P : Pos p l e R s m args below meth c code Z EL wl hS own s.vm T locs cells slots h) (hlk : meth.locks = false) (hv : meth.sig.returnType = none → v = none) (hc : cells ≤ R.cells) (hs : slots ≤ R.slots) (hQ : Q v h locs) {g : JFrame}
    (stp : ∀ fs, (∀ (f : JFrame) (acts : List Action), f.method = m → f.locked = none → f.entered = [] → (doReturn e (T.setTop f) acts v).1 = T.setFrames fs) → Steps p.tables e below (T.setTop g) (T.setFrames fs)) : Go p.tables e below (GN s Q R) (T.setTop g) := by
  obtain ⟨fs, hr, hrun, hended, hW, hsame⟩ := P.1.leave (v := v) hv hlk
  refine ⟨_, _, stp fs hr, hrun, hended, v, locs, rfl, ?_, ⟨_, rfl⟩, hW, hsame.mono hc hs⟩
  have : (T.setFrames fs).heap = h := P.heap
  rw [this]; exact hQ
theorem Pos.endW {Q : Option Value → Heap → List Loc → Prop} {v : Option Value} (P : Pos p l e R s m args below meth c code Z EL wl hS own vm0 T locs cells slots h) (hEL : EW Z a0 EL) (hlk : meth.locks = false) (hv : meth.sig.returnType = none → v = none) (hc : cells ≤ R.cells) (hs : slots ≤ R.slots) (hQ : Q v h locs) {g : JFrame}
    (stp : ∀ fs, (∀ (f : JFrame) (acts : List Action), f.method = m → f.locked = none → f.entered = [] → (doReturn e (T.setTop f) acts v).1 = T.setFrames fs) → Steps p.tables e below (T.setTop g) (T.setFrames fs)) : Go p.tables e below (GW s Z EL hS Q R) (T.setTop g) := by
  obtain ⟨X, eT, ⟨k0, q1, q2⟩, hZ, hown, N, n1, C, hx, hby⟩ := P
  have X2 := X.mono hc hs
  obtain ⟨fs, hr, hrun, hended, hEnd⟩ := X2.leaveW q1 (by rw [eT]; exact q2) (v := v) hv hlk
  have hh : (T.setFrames fs).heap = h := eT
  refine ⟨_, _, stp fs hr, hrun, hended, v, locs, rfl, by rw [hh]; exact hQ, ?_, hEnd⟩
  rw [hh]; show CHr Z EL s.vm hS T.vm h; exact C.trans (CHv.at X hZ hEL C.1)
theorem Pos.retN {Q : Option Value → Heap → List Loc → Prop} (P : Pos p l e R s m args below meth c code Z EL wl hS own s.vm T locs cells slots h) (hlk : meth.locks = false) (hret : meth.sig.returnType = none) (hd : decode code pc = .ok (.return_, 1)) (hc : cells ≤ R.cells) (hs : slots ≤ R.slots) (hQ : Q none h locs) : Go p.tables e below (GN s Q R) (T.setTop (mkF m pc ls [])) :=
  P.endN hlk (fun _ => rfl) hc hs hQ fun fs hr => P.1.returnOut P.q.2.1 hret (hb P.q.2.2 hd) hr
theorem Pos.retIN {Q : Option Value → Heap → List Loc → Prop} (P : Pos p l e R s m args below meth c code Z EL wl hS own s.vm T locs cells slots h) (hlk : meth.locks = false) (hret : meth.sig.returnType = some .int) {z : Int32} (hd : decode code pc = .ok (.ireturn, 1)) (hc : cells ≤ R.cells) (hs : slots ≤ R.slots) (hQ : Q (some (.int z)) h locs) : Go p.tables e below (GN s Q R) (T.setTop (mkF m pc ls (.int z :: st))) :=
  P.endN hlk (fun q => by rw [hret] at q; cases q) hc hs hQ fun fs hr => retOut P.1 P.q.2.1 hret rfl (Or.inl ⟨rfl, Or.inl rfl, z, rfl⟩) (hb P.q.2.2 hd) hr
theorem Pos.retVN {Q : Option Value → Heap → List Loc → Prop} (P : Pos p l e R s m args below meth c code Z EL wl hS own s.vm T locs cells slots h) (hlk : meth.locks = false) {t : FieldType} (hret : meth.sig.returnType = some t) (ht : t = .boolean ∨ t = .byte ∨ t = .char ∨ t = .short) {z : Int32} (hd : decode code pc = .ok (.ireturn, 1)) (hc : cells ≤ R.cells) (hs : slots ≤ R.slots) (hQ : Q (some (.int (nar t z))) h locs) : Go p.tables e below (GN s Q R) (T.setTop (mkF m pc ls (.int z :: st))) :=
  P.endN hlk (fun q => by rw [hret] at q; cases q) hc hs hQ fun fs hr => RoadKit.retN P.1 P.q.2.1 hret ht (hb P.q.2.2 hd) hr
theorem Pos.retAN {Q : Option Value → Heap → List Loc → Prop} (P : Pos p l e R s m args below meth c code Z EL wl hS own s.vm T locs cells slots h) (hlk : meth.locks = false) {t : FieldType} (hret : meth.sig.returnType = some t) (ht : t.isReference = true) {v : Value} (hv : v.isRef = true) (hn : narrow t v = v) (hd : decode code pc = .ok (.areturn, 1)) (hc : cells ≤ R.cells) (hs : slots ≤ R.slots) (hQ : Q (some v) h locs) : Go p.tables e below (GN s Q R) (T.setTop (mkF m pc ls (v :: st))) :=
  P.endN hlk (fun q => by rw [hret] at q; cases q) hc hs hQ fun fs hr => retOut P.1 P.q.2.1 hret hn (Or.inr (Or.inr (Or.inr (Or.inr ⟨rfl, ht, hv⟩)))) (hb P.q.2.2 hd) hr
theorem Pos.retDN {Q : Option Value → Heap → List Loc → Prop} (P : Pos p l e R s m args below meth c code Z EL wl hS own s.vm T locs cells slots h) (hlk : meth.locks = false) (hret : meth.sig.returnType = some .double) {z : UInt64} (hd : decode code pc = .ok (.dreturn, 1)) (hc : cells ≤ R.cells) (hs : slots ≤ R.slots) (hQ : Q (some (.double z)) h locs) : Go p.tables e below (GN s Q R) (T.setTop (mkF m pc ls (.double z :: st))) :=
  P.endN hlk (fun q => by rw [hret] at q; cases q) hc hs hQ fun fs hr => retOut P.1 P.q.2.1 hret rfl (Or.inr (Or.inr (Or.inl ⟨rfl, rfl, z, rfl⟩))) (hb P.q.2.2 hd) hr
theorem Pos.retLN {Q : Option Value → Heap → List Loc → Prop} (P : Pos p l e R s m args below meth c code Z EL wl hS own s.vm T locs cells slots h) (hlk : meth.locks = false) (hret : meth.sig.returnType = some .long) {z : Int64} (hd : decode code pc = .ok (.lreturn, 1)) (hc : cells ≤ R.cells) (hs : slots ≤ R.slots) (hQ : Q (some (.long z)) h locs) : Go p.tables e below (GN s Q R) (T.setTop (mkF m pc ls (.long z :: st))) :=
  P.endN hlk (fun q => by rw [hret] at q; cases q) hc hs hQ fun fs hr => retOut P.1 P.q.2.1 hret rfl (Or.inr (Or.inl ⟨rfl, rfl, z, rfl⟩)) (hb P.q.2.2 hd) hr
theorem Pos.retFN {Q : Option Value → Heap → List Loc → Prop} (P : Pos p l e R s m args below meth c code Z EL wl hS own s.vm T locs cells slots h) (hlk : meth.locks = false) (hret : meth.sig.returnType = some .float) {z : UInt32} (hd : decode code pc = .ok (.freturn, 1)) (hc : cells ≤ R.cells) (hs : slots ≤ R.slots) (hQ : Q (some (.float z)) h locs) : Go p.tables e below (GN s Q R) (T.setTop (mkF m pc ls (.float z :: st))) :=
  P.endN hlk (fun q => by rw [hret] at q; cases q) hc hs hQ fun fs hr => retOut P.1 P.q.2.1 hret rfl (Or.inr (Or.inr (Or.inr (Or.inl ⟨rfl, rfl, z, rfl⟩)))) (hb P.q.2.2 hd) hr
theorem Pos.retW {Q : Option Value → Heap → List Loc → Prop} (P : Pos p l e R s m args below meth c code Z EL wl hS own vm0 T locs cells slots h) (hEL : EW Z a0 EL) (hlk : meth.locks = false) (hret : meth.sig.returnType = none) (hd : decode code pc = .ok (.return_, 1)) (hc : cells ≤ R.cells) (hs : slots ≤ R.slots) (hQ : Q none h locs) : Go p.tables e below (GW s Z EL hS Q R) (T.setTop (mkF m pc ls [])) :=
  P.endW hEL hlk (fun _ => rfl) hc hs hQ fun fs hr => P.1.returnOut P.q.2.1 hret (hb P.q.2.2 hd) hr
theorem Pos.retIW {Q : Option Value → Heap → List Loc → Prop} (P : Pos p l e R s m args below meth c code Z EL wl hS own vm0 T locs cells slots h) (hEL : EW Z a0 EL) (hlk : meth.locks = false) (hret : meth.sig.returnType = some .int) {z : Int32} (hd : decode code pc = .ok (.ireturn, 1)) (hc : cells ≤ R.cells) (hs : slots ≤ R.slots) (hQ : Q (some (.int z)) h locs) : Go p.tables e below (GW s Z EL hS Q R) (T.setTop (mkF m pc ls (.int z :: st))) :=
  P.endW hEL hlk (fun q => by rw [hret] at q; cases q) hc hs hQ fun fs hr => retOut P.1 P.q.2.1 hret rfl (Or.inl ⟨rfl, Or.inl rfl, z, rfl⟩) (hb P.q.2.2 hd) hr
theorem Pos.retVW {Q : Option Value → Heap → List Loc → Prop} (P : Pos p l e R s m args below meth c code Z EL wl hS own vm0 T locs cells slots h) (hEL : EW Z a0 EL) (hlk : meth.locks = false) {t : FieldType} (hret : meth.sig.returnType = some t) (ht : t = .boolean ∨ t = .byte ∨ t = .char ∨ t = .short) {z : Int32} (hd : decode code pc = .ok (.ireturn, 1)) (hc : cells ≤ R.cells) (hs : slots ≤ R.slots) (hQ : Q (some (.int (nar t z))) h locs) : Go p.tables e below (GW s Z EL hS Q R) (T.setTop (mkF m pc ls (.int z :: st))) :=
  P.endW hEL hlk (fun q => by rw [hret] at q; cases q) hc hs hQ fun fs hr => RoadKit.retN P.1 P.q.2.1 hret ht (hb P.q.2.2 hd) hr
theorem Pos.retAW {Q : Option Value → Heap → List Loc → Prop} (P : Pos p l e R s m args below meth c code Z EL wl hS own vm0 T locs cells slots h) (hEL : EW Z a0 EL) (hlk : meth.locks = false) {t : FieldType} (hret : meth.sig.returnType = some t) (ht : t.isReference = true) {v : Value} (hv : v.isRef = true) (hn : narrow t v = v) (hd : decode code pc = .ok (.areturn, 1)) (hc : cells ≤ R.cells) (hs : slots ≤ R.slots) (hQ : Q (some v) h locs) : Go p.tables e below (GW s Z EL hS Q R) (T.setTop (mkF m pc ls (v :: st))) :=
  P.endW hEL hlk (fun q => by rw [hret] at q; cases q) hc hs hQ fun fs hr => retOut P.1 P.q.2.1 hret hn (Or.inr (Or.inr (Or.inr (Or.inr ⟨rfl, ht, hv⟩)))) (hb P.q.2.2 hd) hr
theorem Pos.retDW {Q : Option Value → Heap → List Loc → Prop} (P : Pos p l e R s m args below meth c code Z EL wl hS own vm0 T locs cells slots h) (hEL : EW Z a0 EL) (hlk : meth.locks = false) (hret : meth.sig.returnType = some .double) {z : UInt64} (hd : decode code pc = .ok (.dreturn, 1)) (hc : cells ≤ R.cells) (hs : slots ≤ R.slots) (hQ : Q (some (.double z)) h locs) : Go p.tables e below (GW s Z EL hS Q R) (T.setTop (mkF m pc ls (.double z :: st))) :=
  P.endW hEL hlk (fun q => by rw [hret] at q; cases q) hc hs hQ fun fs hr => retOut P.1 P.q.2.1 hret rfl (Or.inr (Or.inr (Or.inl ⟨rfl, rfl, z, rfl⟩))) (hb P.q.2.2 hd) hr
theorem Pos.retLW {Q : Option Value → Heap → List Loc → Prop} (P : Pos p l e R s m args below meth c code Z EL wl hS own vm0 T locs cells slots h) (hEL : EW Z a0 EL) (hlk : meth.locks = false) (hret : meth.sig.returnType = some .long) {z : Int64} (hd : decode code pc = .ok (.lreturn, 1)) (hc : cells ≤ R.cells) (hs : slots ≤ R.slots) (hQ : Q (some (.long z)) h locs) : Go p.tables e below (GW s Z EL hS Q R) (T.setTop (mkF m pc ls (.long z :: st))) :=
  P.endW hEL hlk (fun q => by rw [hret] at q; cases q) hc hs hQ fun fs hr => retOut P.1 P.q.2.1 hret rfl (Or.inr (Or.inl ⟨rfl, rfl, z, rfl⟩)) (hb P.q.2.2 hd) hr
theorem Pos.retFW {Q : Option Value → Heap → List Loc → Prop} (P : Pos p l e R s m args below meth c code Z EL wl hS own vm0 T locs cells slots h) (hEL : EW Z a0 EL) (hlk : meth.locks = false) (hret : meth.sig.returnType = some .float) {z : UInt32} (hd : decode code pc = .ok (.freturn, 1)) (hc : cells ≤ R.cells) (hs : slots ≤ R.slots) (hQ : Q (some (.float z)) h locs) : Go p.tables e below (GW s Z EL hS Q R) (T.setTop (mkF m pc ls (.float z :: st))) :=
  P.endW hEL hlk (fun q => by rw [hret] at q; cases q) hc hs hQ fun fs hr => retOut P.1 P.q.2.1 hret rfl (Or.inr (Or.inr (Or.inr (Or.inl ⟨rfl, rfl, z, rfl⟩)))) (hb P.q.2.2 hd) hr
end Heapy
section Met
/-- what a stack trace asks of the tables and of the frames beneath -/
abbrev KK : Program → Env → List Frame → State → Array Value → Prop := fun _ _ bl s _ => s.vm.MethodsKnown ∧ s.vm.FramesKnown bl
variable {l : Launch} {Z : State} {EL : List (String × Nat)} {y : MethodName} {bytes : ByteArray} {maxL : Nat} {ret : Option FieldType} {ws : List Jvm.Cond} {rm : Room} {as' : Array Value} {h0 : Heap} {Q : Option Value → Heap → List Loc → Prop} {a0 : Array Value}
/-- a body's contract, narrow (nothing interned) -/
def MetN (l : Launch) (Z : State) (y : MethodName) (bytes : ByteArray) (maxL : Nat) (ret : Option FieldType) (ws : List Jvm.Cond) (rm : Room) (as' : Array Value) (h0 : Heap) (Q : Option Value → Heap → List Loc → Prop) : Prop :=
  MetFree l y (head1 (Jvm.Cond.code y bytes maxL ret :: ws) rm) (fun a U => a = as' ∧ Z.Warmed39 U.vm ∧ U.heap = h0) (fun _ _ _ _ _ => True) (fun _ U o U' => GN U Q rm o U')
/-- .. wide; the places of ss are no booked String's -/
def MetW (l : Launch) (Z : State) (EL : List (String × Nat)) (y : MethodName) (bytes : ByteArray) (maxL : Nat) (ret : Option FieldType) (ws : List Jvm.Cond) (rm : Room) (as' : Array Value) (ss : List Addr) (h0 : Heap) (Q : Option Value → Heap → List Loc → Prop) : Prop :=
  MetFree l y (head1 (Jvm.Cond.code y bytes maxL ret :: ws) rm) (fun a U => a = as' ∧ Z.Warmed39 U.vm ∧ U.heap = h0 ∧ CHv Z EL U.vm h0 ∧ ∀ x ∈ ss, Safe Z EL U.vm h0 x) (fun _ _ _ _ _ => True) (fun _ U o U' => GW U Z EL h0 Q rm o U')
theorem MetN.mk {ls0 : Array Slot} (wl : List Addr) (hp : plainFor y = true) (hent : ∀ m, entryFrame m as' maxL = mkF m 0 ls0 [])
    (body : ∀ p e s m below meth c s₁, c.maxLocals = maxL → meth.sig.returnType = ret → meth.name = y.name → meth.locks = false → Pos p l e rm s m as' below meth c bytes Z [] wl h0 y.cls s.vm s₁ [] 0 0 h0 → Go p.tables e below (GN s Q rm) (s₁.setTop (mkF m 0 ls0 []))) : MetN l Z y bytes maxL ret ws rm as' h0 Q := by
  refine MetFree.of_bodySF hp hisR ?_
  intro p e s m args below meth c s₁ Bd hml hP hK
  obtain ⟨rfl, hZ, hh⟩ := hP
  have hown : s.vm.findClass y.cls = some m.cls := findClass_of_methodNamed Bd.named
  have hnm := (name_of_methodNamed Bd.named Bd.method).1
  have e0 : s₁.heap = h0 := by rw [← hh, Bd.state]; rfl
  have X0 : Stand p l e rm s m args below meth c s₁ [] 0 0 := Stand.of_body Bd
  have hC : CHv Z [] s.vm h0 := fun _ q => nomatch q
  rw [hent]
  exact body p e s m below meth c s₁ hml Bd.returns hnm Bd.notSynchronized ⟨X0, e0, ⟨0, (State.WarmedH.refl s).since _, Nat.zero_le _⟩, hZ, hown, Frw.nil, hh, CHr.refl hC, Bd.exec, Bd.bytes⟩
theorem MetW.mk {ls0 : Array Slot} {ss : List Addr} (wl : List Addr) (hp : plainFor y = true) (hent : ∀ m, entryFrame m as' maxL = mkF m 0 ls0 [])
    (body : ∀ p e s m below meth c s₁, c.maxLocals = maxL → meth.sig.returnType = ret → meth.name = y.name → meth.locks = false → (∀ x ∈ ss, Safe Z EL s.vm h0 x) → Pos p l e rm s m as' below meth c bytes Z EL wl h0 y.cls s.vm s₁ [] 0 0 h0 → Go p.tables e below (GW s Z EL h0 Q rm) (s₁.setTop (mkF m 0 ls0 []))) : MetW l Z EL y bytes maxL ret ws rm as' ss h0 Q := by
  refine MetFree.of_bodySF hp hisR ?_
  intro p e s m args below meth c s₁ Bd hml hP hK
  obtain ⟨rfl, hZ, hh, hC, hss⟩ := hP
  have hown : s.vm.findClass y.cls = some m.cls := findClass_of_methodNamed Bd.named
  have hnm := (name_of_methodNamed Bd.named Bd.method).1
  have e0 : s₁.heap = h0 := by rw [← hh, Bd.state]; rfl
  have X0 : Stand p l e rm s m args below meth c s₁ [] 0 0 := Stand.of_body Bd
  rw [hent]
  exact body p e s m below meth c s₁ hml Bd.returns hnm Bd.notSynchronized hss ⟨X0, e0, ⟨0, (State.WarmedH.refl s).since _, Nat.zero_le _⟩, hZ, hown, Frw.nil, hh, CHr.refl hC, Bd.exec, Bd.bytes⟩
def MetNK (l : Launch) (Z : State) (y : MethodName) (bytes : ByteArray) (maxL : Nat) (ret : Option FieldType) (ws : List Jvm.Cond) (rm : Room) (as' : Array Value) (h0 : Heap) (Q : Option Value → Heap → List Loc → Prop) : Prop :=
  MetFree l y (head1 (Jvm.Cond.code y bytes maxL ret :: ws) rm) (fun a U => a = as' ∧ Z.Warmed39 U.vm ∧ U.heap = h0) KK (fun _ U o U' => GN U Q rm o U')
def MetWK (l : Launch) (Z : State) (EL : List (String × Nat)) (y : MethodName) (bytes : ByteArray) (maxL : Nat) (ret : Option FieldType) (ws : List Jvm.Cond) (rm : Room) (as' : Array Value) (ss : List Addr) (h0 : Heap) (Q : Option Value → Heap → List Loc → Prop) : Prop :=
  MetFree l y (head1 (Jvm.Cond.code y bytes maxL ret :: ws) rm) (fun a U => a = as' ∧ Z.Warmed39 U.vm ∧ U.heap = h0 ∧ CHv Z EL U.vm h0 ∧ ∀ x ∈ ss, Safe Z EL U.vm h0 x) KK (fun _ U o U' => GW U Z EL h0 Q rm o U')
theorem MetNK.mk {ls0 : Array Slot} (wl : List Addr) (hp : plainFor y = true) (hent : ∀ m, entryFrame m as' maxL = mkF m 0 ls0 [])
    (body : ∀ p e s m below meth c s₁, c.maxLocals = maxL → meth.sig.returnType = ret → meth.name = y.name → meth.locks = false → s.vm.MethodsKnown → s.vm.FramesKnown below → Pos p l e rm s m as' below meth c bytes Z [] wl h0 y.cls s.vm s₁ [] 0 0 h0 → Go p.tables e below (GN s Q rm) (s₁.setTop (mkF m 0 ls0 []))) : MetNK l Z y bytes maxL ret ws rm as' h0 Q := by
  refine MetFree.of_bodySF hp hisR ?_
  intro p e s m args below meth c s₁ Bd hml hP hK
  obtain ⟨rfl, hZ, hh⟩ := hP
  have hown : s.vm.findClass y.cls = some m.cls := findClass_of_methodNamed Bd.named
  have hnm := (name_of_methodNamed Bd.named Bd.method).1
  have e0 : s₁.heap = h0 := by rw [← hh, Bd.state]; rfl
  have X0 : Stand p l e rm s m args below meth c s₁ [] 0 0 := Stand.of_body Bd
  have hC : CHv Z [] s.vm h0 := fun _ q => nomatch q
  rw [hent]
  exact body p e s m below meth c s₁ hml Bd.returns hnm Bd.notSynchronized hK.1 hK.2 ⟨X0, e0, ⟨0, (State.WarmedH.refl s).since _, Nat.zero_le _⟩, hZ, hown, Frw.nil, hh, CHr.refl hC, Bd.exec, Bd.bytes⟩
theorem MetWK.mk {ls0 : Array Slot} {ss : List Addr} (wl : List Addr) (hp : plainFor y = true) (hent : ∀ m, entryFrame m as' maxL = mkF m 0 ls0 [])
    (body : ∀ p e s m below meth c s₁, c.maxLocals = maxL → meth.sig.returnType = ret → meth.name = y.name → meth.locks = false → s.vm.MethodsKnown → s.vm.FramesKnown below → (∀ x ∈ ss, Safe Z EL s.vm h0 x) → Pos p l e rm s m as' below meth c bytes Z EL wl h0 y.cls s.vm s₁ [] 0 0 h0 → Go p.tables e below (GW s Z EL h0 Q rm) (s₁.setTop (mkF m 0 ls0 []))) : MetWK l Z EL y bytes maxL ret ws rm as' ss h0 Q := by
  refine MetFree.of_bodySF hp hisR ?_
  intro p e s m args below meth c s₁ Bd hml hP hK
  obtain ⟨rfl, hZ, hh, hC, hss⟩ := hP
  have hown : s.vm.findClass y.cls = some m.cls := findClass_of_methodNamed Bd.named
  have hnm := (name_of_methodNamed Bd.named Bd.method).1
  have e0 : s₁.heap = h0 := by rw [← hh, Bd.state]; rfl
  have X0 : Stand p l e rm s m args below meth c s₁ [] 0 0 := Stand.of_body Bd
  rw [hent]
  exact body p e s m below meth c s₁ hml Bd.returns hnm Bd.notSynchronized hK.1 hK.2 hss ⟨X0, e0, ⟨0, (State.WarmedH.refl s).since _, Nat.zero_le _⟩, hZ, hown, Frw.nil, hh, CHr.refl hC, Bd.exec, Bd.bytes⟩
variable {p : Program} {e : Env} {R : Room} {s : State} {args : Array Value} {below : List Frame} {vm0 : Vm} {len W : Nat} {m : MethodId} {meth : Method} {c : Code} {code : ByteArray} {wl : List Addr} {hS h : Heap} {own : String} {T : State} {locs : List Loc} {cells slots : Nat}
/-- a narrow contract pays a call -/
theorem MetN.pay (hM : MetN l Z y bytes maxL ret [] rm as' h Q) (P : Pos p l e R s m args below meth c code Z EL wl hS own vm0 T locs cells slots h) (wc : (Jvm.Cond.code y bytes maxL ret).before a0 Z = true) (wz : (Jvm.Cond.initialized y.cls).before a0 Z = true) (hf : rm.frames + 1 ≤ R.frames) (hl : W + (maxL + 11) + rm.locals ≤ R.locals) :
    Back l R p e below (s.setVm vm0) args y len W (fun A a => a = as' ∧ A.U.heap = h ∧ A.cells + rm.cells ≤ R.cells ∧ A.slots + rm.slots ≤ R.slots) (fun A _ v B => ∃ L, Q v B.U.heap L ∧ B.locs = A.locs ++ L ∧ B.cells = A.cells + rm.cells ∧ B.slots = A.slots + rm.slots) :=
  backOf hM P.hz wc wz hf hl
theorem MetNK.pay (hM : MetNK l Z y bytes maxL ret [] rm as' h Q) (P : Pos p l e R s m args below meth c code Z EL wl hS own vm0 T locs cells slots h) (hTK : s.vm.MethodsKnown) (hB : s.vm.FramesKnown below) (wc : (Jvm.Cond.code y bytes maxL ret).before a0 Z = true) (wz : (Jvm.Cond.initialized y.cls).before a0 Z = true) (hf : rm.frames + 1 ≤ R.frames) (hl : W + (maxL + 11) + rm.locals ≤ R.locals) :
    Back l R p e below (s.setVm vm0) args y len W (fun A a => a = as' ∧ A.U.heap = h ∧ A.cells + rm.cells ≤ R.cells ∧ A.slots + rm.slots ≤ R.slots) (fun A _ v B => ∃ L, Q v B.U.heap L ∧ B.locs = A.locs ++ L ∧ B.cells = A.cells + rm.cells ∧ B.slots = A.slots + rm.slots) :=
  backOfKL hM P.hz wc wz hf hl (Vm.MethodsKnown.alikeC P.alS hTK) (Vm.FramesKnown.alikeC P.alS hB)
/-- a wide one -/
theorem MetW.pay {ss : List Addr} (hM : MetW l Z EL y bytes maxL ret [] rm as' ss h Q) (P : Pos p l e R s m args below meth c code Z EL wl hS own vm0 T locs cells slots h) (hEL : EW Z a0 EL) (hss : ∀ x ∈ ss, x < h.size ∧ Safe Z EL vm0 h x) (wc : (Jvm.Cond.code y bytes maxL ret).before a0 Z = true) (wz : (Jvm.Cond.initialized y.cls).before a0 Z = true) (hf : rm.frames + 1 ≤ R.frames) (hl : W + (maxL + 11) + rm.locals ≤ R.locals) :
    BackS l R p e below (s.setVm vm0) args y len W (fun A a => a = as' ∧ A.U.heap = h ∧ A.cells + rm.cells ≤ R.cells ∧ A.slots + rm.slots ≤ R.slots) (fun A _ v B => ∃ L, Q v B.U.heap L ∧ B.locs = A.locs ++ L ∧ B.cells = A.cells + rm.cells ∧ B.slots = A.slots + rm.slots ∧ CHr Z EL vm0 h B.U.vm B.U.heap) :=
  BackS.of_freeW (bytes := bytes) (maxL := maxL) (ret := ret) (E := fun _ first o t L k n => k = rm.cells ∧ n = rm.slots ∧ (∃ v, o = .returned v ∧ Q v t.heap L) ∧ CHr Z EL first.vm h t.vm t.heap) hM hf hl
    (fun m meth c A a Y hp => have hU : Z.Warmed39 A.U.vm := wtrans (s := s.setVm vm0) P.hz Y.warmed
      ⟨by show (Jvm.Cond.and _ .tt).before a A.U = true; rw [Jvm.Cond.before_and, mv hU wc]; rfl, mv hU wc, mv hU wz, hp.2.2.1, hp.2.2.2⟩)
    (fun m meth c A a g mk Y hp => ⟨hp.1, wtrans (s := s.setVm vm0) P.hz Y.warmed, hp.2.1, (CHv.at Y P.hz hEL P.chv).1, fun x hx => (CHv.at Y P.hz hEL P.chv).safe (hss x hx).1 (hss x hx).2⟩) (fun _ _ _ _ _ _ _ _ _ => trivial)
    (fun _ _ _ _ ⟨v, L, h1, h2, h3, h4⟩ => ⟨L, _, _, h4, rfl, rfl, ⟨v, h1, h2⟩, h3⟩)
    (fun m meth c A a g mk v t L k n Y hp _ _ ⟨e1, e2, ⟨v', e3, e4⟩, e5⟩ => by
      cases e3; subst e1 e2
      exact ⟨L, e4, rfl, rfl, rfl, (CHv.at Y P.hz hEL P.chv).trans e5⟩)
end Met
/-- what a body that touches nothing says -/
def Pure (v : Option Value) (h0 : Heap) (u : Option Value) (h : Heap) (L : List Loc) : Prop := u = v ∧ L = [] ∧ h0 = h
theorem Pure.ok {v : Option Value} {h0 : Heap} {Z : State} {EL : List (String × Nat)} {vm0 : Vm} {wl : List Addr} {n : Nat} (H : CHv Z EL vm0 h0) : ∀ u h L, Pure v h0 u h L → Frw wl n L ∧ CHr Z EL vm0 h0 vm0 h := fun u h L q => by
  obtain ⟨-, rfl, rfl⟩ := q; exact ⟨Frw.nil, CHr.refl H⟩
theorem ns_root {Z : State} {a0 : Array Value} {O K : String} {n : Nat} (w : (Jvm.Cond.noSuperclass O).before a0 Z = true) (wk : (Jvm.Cond.instantiable K n).before a0 Z = true) (hn : O ≠ K) : NS Z O K := by
  obtain ⟨c, k, h1, h2, h3, -, -⟩ := Cond.noSuperclass_spec w
  obtain ⟨t, kt, g1, -⟩ := Cond.instantiable_spec wk
  have ne := ids_ne h1 g1 hn
  refine ⟨c, t, h1, g1, fun fuel => ?_⟩
  cases fuel with
  | zero => rfl
  | succ f => simp [Vm.isSubclassAux, ne, h2, h3]
theorem ns_no {Z : State} {a0 : Array Value} {C S K : String} {n : Nat} (w : (Jvm.Cond.superclass C S).before a0 Z = true) (wk : (Jvm.Cond.instantiable K n).before a0 Z = true) (N : NS Z C K) (hn : C ≠ K) : ∃ c t, Z.vm.findClass C = some c ∧ Z.vm.findClass K = some t ∧ Z.vm.assignable c t = false := by
  obtain ⟨c, t, h0, g0, n3⟩ := N
  obtain ⟨p, k, kp, h1, h2, h3, h4, h5, -, h7⟩ := Cond.superclass_spec h0 w
  obtain ⟨t', k', g1, g2, g5, g6, -⟩ := Cond.instantiable_spec wk
  cases g0.symm.trans g1
  have g7 : k'.isInterface = false := by cases q : k'.isInterface <;> simp [q] at g6 ⊢
  have ne := ids_ne h0 g0 hn
  refine ⟨c, t, h0, g0, ?_⟩
  show Z.vm.assignableAux (255 + 1) c t = false
  simp [Vm.assignableAux, ne, h2, g2, h5, g5, g7, Vm.isSubclass, n3]
theorem Ext.keepNew {h0 h h' : Heap} {wl : List Addr} (E : Ext h0 h) (K : Keep h h' wl) (q : ∀ x ∈ wl, h0.size ≤ x) : Ext h0 h' := ⟨Nat.le_trans E.1 K.1, fun a c r => K.2.1 a c (E.2 a c r) fun z => absurd (Array.getElem?_eq_some_iff.mp r).1 (Nat.not_lt.mpr (q a z))⟩
theorem Ext.trans {h0 h h' : Heap} (E : Ext h0 h) (E' : Ext h h') : Ext h0 h' := ⟨Nat.le_trans E.1 E'.1, fun a c r => E'.2 a c (E.2 a c r)⟩
theorem Ext.refl (h : Heap) : Ext h h := ⟨Nat.le_refl _, fun _ _ r => r⟩
theorem Ext.wrNew {h0 h h' : Heap} {a : Addr} {sl : Nat} {v : Value} (E : Ext h0 h) (Wq : Wr h h' a sl v) (q : h0.size ≤ a) : Ext h0 h' := Ext.keepNew E (Keep.of_wr Wq) (allS q all0)
theorem Ext.toKeep {h h' : Heap} (E : Ext h h') (wl : List Addr) : Keep h h' wl := (Keep.refl h wl).ext E
end W
end Jvm.Pilot.@@N@@
namespace Jvm.Pilot.@@N@@
namespace W
open Jvm Jvm.ClassFile Sem Op Lib Jvm.Free Jvm.Stand Jvm.LawKit Jvm.RoadKit Bundle
theorem i32 {n : Nat} (h : n < 2147483648) : (Int32.ofNat n).toInt = n := Int32.toInt_ofNat_of_lt h
theorem n32 {n : Nat} (h : n < 2147483648) : (Int32.ofNat n).toNatClampNeg = n := by rw [Int32.toNatClampNeg, i32 h]; rfl
theorem nn32 {n : Nat} (h : n < 2147483648) : ¬ Int32.ofNat n < 0 := by
  rw [Int32.lt_iff_toInt_lt, i32 h]; have e : (0 : Int32).toInt = 0 := rfl; omega
theorem lt32 {i n : Nat} (hi : i < 2147483648) (hn : n < 2147483648) : Int32.ofNat i < Int32.ofNat n ↔ i < n := by
  rw [Int32.lt_iff_toInt_lt, i32 hi, i32 hn]; omega
theorem eq32 {i n : Nat} (hi : i < 2147483648) (hn : n < 2147483648) : Int32.ofNat i = Int32.ofNat n ↔ i = n := by
  rw [← Int32.toInt_inj, i32 hi, i32 hn]; omega
theorem succ32 (i : Nat) : Int32.ofNat i + Int32.ofInt 1 = Int32.ofNat (i + 1) := by
  rw [Int32.ofNat_add]; rfl
theorem shl1 (n : Nat) : Int32.ofNat n <<< ((1 : Int32) &&& 31) = Int32.ofNat (2 * n) := by
  have e : ((1 : Int32) &&& 31) = 1 := by decide
  rw [e]
  apply Int32.toBitVec_inj.mp
  rw [Int32.toBitVec_shiftLeft]
  have e1 : ((1 : Int32).toBitVec.smod 32) = 1#32 := by decide
  rw [e1, BitVec.shiftLeft_eq']
  apply BitVec.eq_of_toNat_eq
  show ((BitVec.ofNat 32 n) <<< 1).toNat = (BitVec.ofNat 32 (2 * n)).toNat
  rw [BitVec.toNat_shiftLeft, BitVec.toNat_ofNat, BitVec.toNat_ofNat, Nat.shiftLeft_eq]
  omega
theorem stI {ls ls2 : Array Slot} {k : Nat} {v : Int32} {o : Slot} (hold : ls[k]? = some o) (ho : One o) (h2 : ls.setIfInBounds k (.val (.int v)) = ls2) : storeLocals ls k (.int v) = some ls2 := by
  rw [← h2]; exact Jvm.Free.XS.store1 hold ho rfl
theorem safe0 {Z : State} {vm : Vm} {h : Heap} {x : Addr} : Safe Z [] vm h x := fun B => by obtain ⟨q, hq, -⟩ := B; cases hq
def upd (f : Nat → Int32) (i : Nat) (v : Int32) : Nat → Int32 := fun j => if j = i then v else f j
/-- the array a holds the n ints f 0 .. f (n - 1) -/
def Arg (Z : State) (h : Heap) (a : Addr) (k : ClassId) (ty : FieldType) (n : Nat) (f : Nat → Int32) : Prop := ∃ vs : List Value, Arv Z h a k ty (Int32.ofNat n) vs (.int 0) ∧ vs.length = n ∧ n < 2147483648 ∧ ∀ i, i < n → vs.getD i (.int 0) = .int (f i)
section A
variable {Z : State} {h h' : Heap} {a b : Addr} {k : ClassId} {ty : FieldType} {n : Nat} {f g : Nat → Int32}
theorem Arg.ext (A : Arg Z h a k ty n f) (E : Ext h h') : Arg Z h' a k ty n f := by obtain ⟨vs, q, r⟩ := A; exact ⟨vs, q.ext E, r⟩
theorem Arg.keep {ws : List Addr} (A : Arg Z h a k ty n f) (K : Keep h h' ws) (q : a ∉ ws) : Arg Z h' a k ty n f := by obtain ⟨vs, r, t⟩ := A; exact ⟨vs, r.keep K q, t⟩
theorem Arg.other {sl : Nat} {v : Value} (A : Arg Z h b k ty n f) (W : Wr h h' a sl v) (q : b ≠ a) : Arg Z h' b k ty n f := by obtain ⟨vs, r, t⟩ := A; exact ⟨vs, r.other W q, t⟩
theorem Arg.lt (A : Arg Z h a k ty n f) : a < h.size := by obtain ⟨vs, r, t⟩ := A; exact r.lt
theorem Arg.arv (A : Arg Z h a k ty n f) : ∃ vs, Arv Z h a k ty (Int32.ofNat n) vs (.int 0) := by obtain ⟨vs, r, t⟩ := A; exact ⟨vs, r⟩
theorem Arg.small (A : Arg Z h a k ty n f) : n < 2147483648 := by obtain ⟨vs, r, t, u, -⟩ := A; exact u
theorem Arg.congr (A : Arg Z h a k ty n f) (q : ∀ i, i < n → f i = g i) : Arg Z h a k ty n g := by obtain ⟨vs, r, t, u, w⟩ := A; exact ⟨vs, r, t, u, fun i hi => by rw [w i hi, q i hi]⟩
theorem Arg.new (hn : n < 2147483648) (V : Arv Z h a k ty (Int32.ofNat n) (List.replicate (Int32.ofNat n).toNatClampNeg (.int 0)) (.int 0)) : Arg Z h a k ty n (fun _ => 0) := ⟨_, V, by rw [List.length_replicate, n32 hn], hn, fun i hi => by
  rw [n32 hn]; simp [List.getD_eq_getElem?_getD, hi]⟩
end A
section P
variable {p : Program} {l : Launch} {e : Env} {R : Room} {s : State} {m : MethodId} {args : Array Value} {below : List Frame} {meth : Method} {c : Code} {code : ByteArray} {Z : State} {EL : List (String × Nat)} {wl : List Addr} {hS : Heap} {own : String} {vm0 : Vm} {T : State} {locs : List Loc} {cells slots : Nat} {h : Heap} {a0 : Array Value} {G : Outcome → State → Prop} {pc pc1 pc2 : Nat} {ls ls2 : Array Slot} {st : List Value}
theorem Pos.ldCg (P : Pos p l e R s m args below meth c code Z EL wl hS own vm0 T locs cells slots h) {a : Addr} {k : ClassId} {n i : Nat} {f : Nat → Int32} (V : Arg Z h a k .char n f) (hi : i < n) (hd : decode code pc = .ok (.caload, 1)) (hp : pc + 1 = pc1) (K : Go p.tables e below G (T.setTop (mkF m pc1 ls (.int (f i) :: st)))) : Go p.tables e below G (T.setTop (mkF m pc ls (.int (Int32.ofNat i) :: .ref a :: st))) := by
  obtain ⟨vs, r, t, u, w⟩ := V
  exact P.ldC r (nn32 (by omega)) (by rw [n32 (by omega), n32 u]; exact hi) (by rw [n32 (by omega)]; exact w i hi) hd hp K
theorem Pos.ldBg (P : Pos p l e R s m args below meth c code Z EL wl hS own vm0 T locs cells slots h) {a : Addr} {k : ClassId} {n i : Nat} {f : Nat → Int32} (V : Arg Z h a k .byte n f) (hi : i < n) (hd : decode code pc = .ok (.baload, 1)) (hp : pc + 1 = pc1) (K : Go p.tables e below G (T.setTop (mkF m pc1 ls (.int (f i) :: st)))) : Go p.tables e below G (T.setTop (mkF m pc ls (.int (Int32.ofNat i) :: .ref a :: st))) := by
  obtain ⟨vs, r, t, u, w⟩ := V
  exact P.ldB r (nn32 (by omega)) (by rw [n32 (by omega), n32 u]; exact hi) (by rw [n32 (by omega)]; exact w i hi) hd hp K
theorem Arg.set_ {a : Addr} {k : ClassId} {ty : FieldType} {n i : Nat} {f : Nat → Int32} {vs : List Value} {v : Int32} (V : Arv Z h a k ty (Int32.ofNat n) (vs.set i (.int v)) (.int 0)) (t : vs.length = n) (u : n < 2147483648) (w : ∀ i, i < n → vs.getD i (.int 0) = .int (f i)) : Arg Z h a k ty n (upd f i v) := by
  refine ⟨_, V, by rw [List.length_set]; exact t, u, fun j hj => ?_⟩
  simp only [List.getD_eq_getElem?_getD, List.getElem?_set, upd]
  by_cases q : i = j
  · subst q; simp [t, hj]
  · rw [if_neg q, if_neg (Ne.symm q), ← List.getD_eq_getElem?_getD]; exact w j hj
theorem Pos.stBg (P : Pos p l e R s m args below meth c code Z EL wl hS own vm0 T locs cells slots h) {a : Addr} {k : ClassId} {n i : Nat} {f : Nat → Int32} {x : Int32} (V : Arg Z h a k .byte n f) (hi : i < n) (ga : a ∈ wl ∨ hS.size ≤ a) (S : Safe Z EL vm0 h a) (hd : decode code pc = .ok (.bastore, 1)) (hp : pc + 1 = pc1)
    (K : ∀ (T' : State) (h' : Heap), Pos p l e R s m args below meth c code Z EL wl hS own vm0 T' (locs ++ [⟨a, (Int32.ofNat i).toNatClampNeg⟩]) cells slots h' → Wr h h' a (Int32.ofNat i).toNatClampNeg (.int (nar .byte x)) → Arg Z h' a k .byte n (upd f i (nar .byte x)) → Go p.tables e below G (T'.setTop (mkF m pc1 ls st))) : Go p.tables e below G (T.setTop (mkF m pc ls (.int x :: .int (Int32.ofNat i) :: .ref a :: st))) := by
  obtain ⟨vs, r, t, u, w⟩ := V
  exact P.stB r (nn32 (by omega)) (n32 (by omega)) (by omega) (by rw [n32 u, t]) ga S hd hp (fun T' h' P' W' V' => K T' h' P' W' (Arg.set_ V' t u w))
theorem Pos.stCg (P : Pos p l e R s m args below meth c code Z EL wl hS own vm0 T locs cells slots h) {a : Addr} {k : ClassId} {n i : Nat} {f : Nat → Int32} {x : Int32} (V : Arg Z h a k .char n f) (hi : i < n) (ga : a ∈ wl ∨ hS.size ≤ a) (S : Safe Z EL vm0 h a) (hd : decode code pc = .ok (.castore, 1)) (hp : pc + 1 = pc1)
    (K : ∀ (T' : State) (h' : Heap), Pos p l e R s m args below meth c code Z EL wl hS own vm0 T' (locs ++ [⟨a, (Int32.ofNat i).toNatClampNeg⟩]) cells slots h' → Wr h h' a (Int32.ofNat i).toNatClampNeg (.int (nar .char x)) → Arg Z h' a k .char n (upd f i (nar .char x)) → Go p.tables e below G (T'.setTop (mkF m pc1 ls st))) : Go p.tables e below G (T.setTop (mkF m pc ls (.int x :: .int (Int32.ofNat i) :: .ref a :: st))) := by
  obtain ⟨vs, r, t, u, w⟩ := V
  exact P.stC r (nn32 (by omega)) (n32 (by omega)) (by omega) (by rw [n32 u, t]) ga S hd hp (fun T' h' P' W' V' => K T' h' P' W' (Arg.set_ V' t u w))
theorem Pos.ldZg (P : Pos p l e R s m args below meth c code Z EL wl hS own vm0 T locs cells slots h) {a : Addr} {k : ClassId} {n i : Nat} {f : Nat → Int32} (V : Arg Z h a k .boolean n f) (hi : i < n) (hd : decode code pc = .ok (.baload, 1)) (hp : pc + 1 = pc1) (K : Go p.tables e below G (T.setTop (mkF m pc1 ls (.int (f i) :: st)))) : Go p.tables e below G (T.setTop (mkF m pc ls (.int (Int32.ofNat i) :: .ref a :: st))) := by
  obtain ⟨vs, r, t, u, w⟩ := V
  exact P.ldZ r (nn32 (by omega)) (by rw [n32 (by omega), n32 u]; exact hi) (by rw [n32 (by omega)]; exact w i hi) hd hp K
theorem Pos.ldIg (P : Pos p l e R s m args below meth c code Z EL wl hS own vm0 T locs cells slots h) {a : Addr} {k : ClassId} {n i : Nat} {f : Nat → Int32} (V : Arg Z h a k .int n f) (hi : i < n) (hd : decode code pc = .ok (.iaload, 1)) (hp : pc + 1 = pc1) (K : Go p.tables e below G (T.setTop (mkF m pc1 ls (.int (f i) :: st)))) : Go p.tables e below G (T.setTop (mkF m pc ls (.int (Int32.ofNat i) :: .ref a :: st))) := by
  obtain ⟨vs, r, t, u, w⟩ := V
  exact P.ldI r (nn32 (by omega)) (by rw [n32 (by omega), n32 u]; exact hi) (by rw [n32 (by omega)]; exact w i hi) hd hp K
theorem Pos.stZg (P : Pos p l e R s m args below meth c code Z EL wl hS own vm0 T locs cells slots h) {a : Addr} {k : ClassId} {n i : Nat} {f : Nat → Int32} {x : Int32} (V : Arg Z h a k .boolean n f) (hi : i < n) (ga : a ∈ wl ∨ hS.size ≤ a) (S : Safe Z EL vm0 h a) (hd : decode code pc = .ok (.bastore, 1)) (hp : pc + 1 = pc1)
    (K : ∀ (T' : State) (h' : Heap), Pos p l e R s m args below meth c code Z EL wl hS own vm0 T' (locs ++ [⟨a, (Int32.ofNat i).toNatClampNeg⟩]) cells slots h' → Wr h h' a (Int32.ofNat i).toNatClampNeg (.int (nar .boolean x)) → Arg Z h' a k .boolean n (upd f i (nar .boolean x)) → Go p.tables e below G (T'.setTop (mkF m pc1 ls st))) : Go p.tables e below G (T.setTop (mkF m pc ls (.int x :: .int (Int32.ofNat i) :: .ref a :: st))) := by
  obtain ⟨vs, r, t, u, w⟩ := V
  exact P.stZ r (nn32 (by omega)) (n32 (by omega)) (by omega) (by rw [n32 u, t]) ga S hd hp (fun T' h' P' W' V' => K T' h' P' W' (Arg.set_ V' t u w))
theorem Pos.stIg (P : Pos p l e R s m args below meth c code Z EL wl hS own vm0 T locs cells slots h) {a : Addr} {k : ClassId} {n i : Nat} {f : Nat → Int32} {x : Int32} (V : Arg Z h a k .int n f) (hi : i < n) (ga : a ∈ wl ∨ hS.size ≤ a) (S : Safe Z EL vm0 h a) (hd : decode code pc = .ok (.iastore, 1)) (hp : pc + 1 = pc1)
    (K : ∀ (T' : State) (h' : Heap), Pos p l e R s m args below meth c code Z EL wl hS own vm0 T' (locs ++ [⟨a, (Int32.ofNat i).toNatClampNeg⟩]) cells slots h' → Wr h h' a (Int32.ofNat i).toNatClampNeg (.int x) → Arg Z h' a k .int n (upd f i x) → Go p.tables e below G (T'.setTop (mkF m pc1 ls st))) : Go p.tables e below G (T.setTop (mkF m pc ls (.int x :: .int (Int32.ofNat i) :: .ref a :: st))) := by
  obtain ⟨vs, r, t, u, w⟩ := V
  exact P.stI r (nn32 (by omega)) (n32 (by omega)) (by omega) (by rw [n32 u, t]) ga S hd hp (fun T' h' P' W' V' => K T' h' P' W' (Arg.set_ V' t u w))
theorem Pos.lenG (P : Pos p l e R s m args below meth c code Z EL wl hS own vm0 T locs cells slots h) {a : Addr} {k : ClassId} {ty : FieldType} {n : Nat} {f : Nat → Int32} (V : Arg Z h a k ty n f) (hd : decode code pc = .ok (.arraylength, 1)) (hp : pc + 1 = pc1) (K : Go p.tables e below G (T.setTop (mkF m pc1 ls (.int (Int32.ofNat n) :: st)))) : Go p.tables e below G (T.setTop (mkF m pc ls (.ref a :: st))) := by
  obtain ⟨vs, r⟩ := V.arv; exact P.len r hd hp K
end P
theorem Arg.list {Z : State} {h : Heap} {a : Addr} {k : ClassId} {ty : FieldType} {n : Nat} {f : Nat → Int32} {cs : List Int32} (A : Arg Z h a k ty n f) (hl : cs.length = n) (q : ∀ i, i < n → f i = cs.getD i 0) : Arv Z h a k ty (Int32.ofNat n) (cs.map Value.int) (.int 0) := by
  obtain ⟨vs, V, t, u, w⟩ := A
  refine V.pad (fun i => ?_)
  by_cases hi : i < n
  · rw [w i hi, q i hi]
    simp only [List.getD_eq_getElem?_getD, List.getElem?_map]
    rw [List.getElem?_eq_getElem (by omega)]; rfl
  · simp only [List.getD_eq_getElem?_getD]
    rw [List.getElem?_eq_none (by simp; omega), List.getElem?_eq_none (by omega)]
theorem Arg.safe {Z : State} {h : Heap} {a : Addr} {k : ClassId} {ty : FieldType} {n : Nat} {f : Nat → Int32} {EL : List (String × Nat)} {vm : Vm} (hal : Z.vm.Alike vm) (A : Arg Z h a k ty n f) (ht : ty ≠ .byte) : Safe Z EL vm h a := by
  obtain ⟨vs, V, -⟩ := A; exact Safe.arv hal V ht
end W
end Jvm.Pilot.@@N@@
namespace Jvm.Pilot.@@N@@
namespace W
open Jvm Jvm.ClassFile Sem Op Lib Jvm.Free Jvm.Stand Jvm.LawKit Jvm.RoadKit Bundle
theorem hasL_of {c : Cell} {dv : Value} : ∀ (vs : List Value) (i : Nat), (∀ j, j < vs.length → c.slots[i + j]? = some (vs.getD j dv)) → HasL c i vs
  | [], _, _ => trivial
  | v :: r, i, H => ⟨H 0 (Nat.succ_pos _), hasL_of r (i + 1) (fun j q => by have := H (j + 1) (Nat.succ_lt_succ q); rw [Nat.add_right_comm]; exact this)⟩
theorem j32 {n : Nat} (h : n < 2147483648) : (Int32.ofNat n).toInt = n := Int32.toInt_ofNat_of_lt h
theorem k32 {n : Nat} (h : n < 2147483648) : (Int32.ofNat n).toNatClampNeg = n := by rw [Int32.toNatClampNeg, j32 h]; rfl
/-- an array of the start -/
theorem arvStart {Z : State} {args : Array Value} {t : Term} {a : Addr} {ty : FieldType} {vs : List Value} {dv : Value} (n : Nat) (hf : Fit Z) (ev : t.eval args Z none [] Z = some (.ref a)) (ha : (Jvm.Cond.arrayOf t ty).value args Z none Z [] = some true) (hl : (Term.length t).eval args Z none [] Z = some (.int (Int32.ofNat n))) (hn : n < 2147483648) (hlen : vs.length = n) (H : ∀ i, i < n → (Term.elem t (.int (Int32.ofNat i))).eval args Z none [] Z = some (vs.getD i dv)) : ∃ k, Arv Z Z.heap a k ty (Int32.ofNat n) vs dv := by
  obtain ⟨c, A⟩ := Arr.start ev ha
  have ha' := Arr.fin (Vm.Alike.refl _) A
  have hs : c.slots.size < 2147483648 ∧ c.slots.size.toInt32 = Int32.ofNat n := by
    simp only [Term.eval, ev, ha', Option.bind_eq_bind, Option.bind_some] at hl
    by_cases q : c.slots.size < 2147483648
    · rw [if_pos q] at hl; exact ⟨q, Value.int.inj (Option.some.inj hl)⟩
    · rw [if_neg q] at hl; cases hl
  refine ⟨c.cls, Arv.start hf A hs.1 hs.2 ?_ (by rw [k32 hn, hlen]) (hasL_of (dv := dv) vs 0 fun j hj => ?_)⟩
  · rw [Int32.lt_iff_toInt_lt, j32 hn]; show ¬ (n : Int) < 0; omega
  · have q := (elem_in (H j (hlen ▸ hj)) ev (Term.int_eval _) A.1).2
    rw [k32 (by omega)] at q; rw [Nat.zero_add]; exact q
theorem eqRef {args : Array Value} {first s : State} {o : Option Outcome} {idx : List Nat} {t u : Term} {p : Addr} (h : (Jvm.Cond.eq t u).value args first o s idx = some true) (hu : u.eval args first o idx s = some (.ref p)) : t.eval args first o idx s = some (.ref p) := by
  obtain ⟨x, y, e1, e2, -, k2⟩ := cmp_v (Or.inl h)
  cases hu.symm.trans e2
  have hx : x.isRef = true := k2.2
  rw [e1, gotT (eq_R e1 hu hx rfl) h]
end W
end Jvm.Pilot.@@N@@
namespace Jvm.Pilot.@@N@@
open Jvm Jvm.ClassFile Sem Op Lib Jvm.Free Jvm.Stand Jvm.LawKit Jvm.RoadKit Bundle Jvm.Pilot.@@N@@.Jvm.D
theorem wd {a0 : Array Value} {Z : State} (hw : ∀ d ∈ tables_1, d.before a0 Z = true) {k : Nat} {d : Jvm.Cond} (h : tables_1[k]? = some d) : d.before a0 Z = true := hw d (List.mem_of_getElem? h)
theorem own_up {c : Int32} (h : ¬ (255 : Int32) < c) : ¬ (65535 : Int32) < c := by
  rw [Int32.lt_iff_toInt_lt] at h ⊢
  have e0 : (255 : Int32).toInt = 255 := rfl
  have e1 : (65535 : Int32).toInt = 65535 := rfl
  omega
theorem own_m255 (x : Int32) : ¬ (x &&& 255) < 0 ∧ ¬ (255 : Int32) < (x &&& 255) := by
  have q := c_mask x 255 8 (by decide) (by decide)
  have e0 : (0 : Int32).toInt = 0 := rfl
  have e1 : (255 : Int32).toInt = 255 := rfl
  rw [Int32.lt_iff_toInt_lt, Int32.lt_iff_toInt_lt]; omega
theorem own_nar255 (x : Int32) : nar .char (x &&& 255) = x &&& 255 := i2c_mask x
theorem own_mask3 (x : Int32) : (x &&& 3) = 0 ∨ (x &&& 3) = 1 ∨ (x &&& 3) = 2 ∨ (x &&& 3) = 3 := by
  have q := c_mask x 3 2 (by decide) (by decide)
  have r : (x &&& 3).toInt = 0 ∨ (x &&& 3).toInt = 1 ∨ (x &&& 3).toInt = 2 ∨ (x &&& 3).toInt = 3 := by omega
  rcases r with r | r | r | r
  · exact Or.inl (Int32.toInt_inj.mp r)
  · exact Or.inr (Or.inl (Int32.toInt_inj.mp r))
  · exact Or.inr (Or.inr (Or.inl (Int32.toInt_inj.mp r)))
  · exact Or.inr (Or.inr (Or.inr (Int32.toInt_inj.mp r)))
theorem own_rem (y : Int32) (k : Int32) (h : 0 ≤ y.toInt) (hk : 0 < k.toInt) : (y - y / k * k).toInt = y.toInt % k.toInt := by
  have d : (y / k).toInt = y.toInt / k.toInt := by
    rw [Int32.toInt_div, Int.tdiv_eq_ediv_of_nonneg h]
    have h1 : 0 ≤ y.toInt / k.toInt := Int.ediv_nonneg h (by omega)
    have h2 : y.toInt / k.toInt ≤ y.toInt := Int.ediv_le_self _ h
    have h3 := y.toInt_lt
    rw [Int.bmod_eq_of_le (by omega) (by omega)]
  have e := Int.mul_ediv_add_emod y.toInt k.toInt
  have e' : y.toInt / k.toInt * k.toInt = k.toInt * (y.toInt / k.toInt) := Int.mul_comm _ _
  have m0 := Int.emod_nonneg y.toInt (show k.toInt ≠ 0 by omega)
  have h0 : 0 ≤ k.toInt * (y.toInt / k.toInt) := Int.mul_nonneg (by omega) (Int.ediv_nonneg h (by omega))
  have h3 := y.toInt_lt
  have q : (y / k * k).toInt = y.toInt / k.toInt * k.toInt := by
    rw [Int32.toInt_mul, d, Int.bmod_eq_of_le (by omega) (by omega)]
  rw [Int32.toInt_sub, q, Int.bmod_eq_of_le (by omega) (by omega)]; omega
theorem own_eqI {args : Array Value} {first s : State} {o : Option Outcome} {idx : List Nat} {t : Term} {k : Int32} (h : (Jvm.Cond.eq t (.int k)).value args first o s idx = some true) : t.eval args first o idx s = some (.int k) := by
  obtain ⟨x, y, e1, e2, -, k2⟩ := cmp_v (Or.inl h)
  cases Option.some.inj ((Term.int_eval k).symm.trans e2)
  obtain ⟨z, rfl⟩ := k2
  rw [e1, gotT (Cond.eq_ints e1 e2) h]
theorem own_rf {C : String} {v : Value} (h : v.isRef = true) : narrow (.object C) v = v ∧ fits (.object C) v = true := by cases v <;> first | (cases h; done) | exact ⟨rfl, rfl⟩
theorem d1_0 : decode jdk_29_method_65_code 0 = .ok (.iload_n 0, 1) := by decide +kernel
theorem d1_1 : decode jdk_29_method_65_code 1 = .ok (.iload_n 1, 1) := by decide +kernel
theorem d1_2 : decode jdk_29_method_65_code 2 = .ok (.if_icmp .lt 7, 3) := by decide +kernel
theorem d1_5 : decode jdk_29_method_65_code 5 = .ok (.iload_n 0, 1) := by decide +kernel
theorem d1_6 : decode jdk_29_method_65_code 6 = .ok (.goto 4, 3) := by decide +kernel
theorem d1_9 : decode jdk_29_method_65_code 9 = .ok (.iload_n 1, 1) := by decide +kernel
theorem d1_10 : decode jdk_29_method_65_code 10 = .ok (.ireturn, 1) := by decide +kernel
theorem d2_0 : decode prog_38_method_2_code 0 = .ok (.aload_n 0, 1) := by decide +kernel
theorem d2_1 : decode prog_38_method_2_code 1 = .ok (.arraylength, 1) := by decide +kernel
theorem d2_2 : decode prog_38_method_2_code 2 = .ok (.istore_n 2, 1) := by decide +kernel
theorem d2_3 : decode prog_38_method_2_code 3 = .ok (.iload_n 2, 1) := by decide +kernel
theorem d2_4 : decode prog_38_method_2_code 4 = .ok (.iconst 1, 1) := by decide +kernel
theorem d2_5 : decode prog_38_method_2_code 5 = .ok (.iadd, 1) := by decide +kernel
theorem d2_6 : decode prog_38_method_2_code 6 = .ok (.newarray .int, 2) := by decide +kernel
theorem d2_8 : decode prog_38_method_2_code 8 = .ok (.astore_n 3, 1) := by decide +kernel
theorem d2_9 : decode prog_38_method_2_code 9 = .ok (.dconst 0, 1) := by decide +kernel
theorem d2_10 : decode prog_38_method_2_code 10 = .ok (.dstore 4, 2) := by decide +kernel
theorem d2_12 : decode prog_38_method_2_code 12 = .ok (.iconst 1, 1) := by decide +kernel
theorem d2_13 : decode prog_38_method_2_code 13 = .ok (.istore 6, 2) := by decide +kernel
theorem d2_15 : decode prog_38_method_2_code 15 = .ok (.iload 6, 2) := by decide +kernel
theorem d2_17 : decode prog_38_method_2_code 17 = .ok (.iload_n 2, 1) := by decide +kernel
theorem d2_18 : decode prog_38_method_2_code 18 = .ok (.if_icmp .gt 50, 3) := by decide +kernel
theorem d2_21 : decode prog_38_method_2_code 21 = .ok (.aload_n 3, 1) := by decide +kernel
theorem d2_22 : decode prog_38_method_2_code 22 = .ok (.iload 6, 2) := by decide +kernel
theorem d2_24 : decode prog_38_method_2_code 24 = .ok (.aload_n 3, 1) := by decide +kernel
theorem d2_25 : decode prog_38_method_2_code 25 = .ok (.iload 6, 2) := by decide +kernel
theorem d2_27 : decode prog_38_method_2_code 27 = .ok (.iconst 1, 1) := by decide +kernel
theorem d2_28 : decode prog_38_method_2_code 28 = .ok (.isub, 1) := by decide +kernel
theorem d2_29 : decode prog_38_method_2_code 29 = .ok (.iaload, 1) := by decide +kernel
theorem d2_30 : decode prog_38_method_2_code 30 = .ok (.iastore, 1) := by decide +kernel
theorem d2_31 : decode prog_38_method_2_code 31 = .ok (.aload_n 0, 1) := by decide +kernel
theorem d2_32 : decode prog_38_method_2_code 32 = .ok (.iload 6, 2) := by decide +kernel
theorem d2_34 : decode prog_38_method_2_code 34 = .ok (.iconst 1, 1) := by decide +kernel
theorem d2_35 : decode prog_38_method_2_code 35 = .ok (.isub, 1) := by decide +kernel
theorem d2_36 : decode prog_38_method_2_code 36 = .ok (.baload, 1) := by decide +kernel
theorem d2_37 : decode prog_38_method_2_code 37 = .ok (.ifCond .eq 25, 3) := by decide +kernel
theorem d2_40 : decode prog_38_method_2_code 40 = .ok (.aload_n 3, 1) := by decide +kernel
theorem d2_41 : decode prog_38_method_2_code 41 = .ok (.iload 6, 2) := by decide +kernel
theorem d2_43 : decode prog_38_method_2_code 43 = .ok (.dup2, 1) := by decide +kernel
theorem d2_44 : decode prog_38_method_2_code 44 = .ok (.iaload, 1) := by decide +kernel
theorem d2_45 : decode prog_38_method_2_code 45 = .ok (.iconst 1, 1) := by decide +kernel
theorem d2_46 : decode prog_38_method_2_code 46 = .ok (.iadd, 1) := by decide +kernel
theorem d2_47 : decode prog_38_method_2_code 47 = .ok (.iastore, 1) := by decide +kernel
theorem d2_48 : decode prog_38_method_2_code 48 = .ok (.dload 4, 2) := by decide +kernel
theorem d2_50 : decode prog_38_method_2_code 50 = .ok (.aload_n 3, 1) := by decide +kernel
theorem d2_51 : decode prog_38_method_2_code 51 = .ok (.iload 6, 2) := by decide +kernel
theorem d2_53 : decode prog_38_method_2_code 53 = .ok (.iaload, 1) := by decide +kernel
theorem d2_54 : decode prog_38_method_2_code 54 = .ok (.i2d, 1) := by decide +kernel
theorem d2_55 : decode prog_38_method_2_code 55 = .ok (.iload 6, 2) := by decide +kernel
theorem d2_57 : decode prog_38_method_2_code 57 = .ok (.i2d, 1) := by decide +kernel
theorem d2_58 : decode prog_38_method_2_code 58 = .ok (.ddiv, 1) := by decide +kernel
theorem d2_59 : decode prog_38_method_2_code 59 = .ok (.dadd, 1) := by decide +kernel
theorem d2_60 : decode prog_38_method_2_code 60 = .ok (.dstore 4, 2) := by decide +kernel
theorem d2_62 : decode prog_38_method_2_code 62 = .ok (.iinc 6 1, 3) := by decide +kernel
theorem d2_65 : decode prog_38_method_2_code 65 = .ok (.goto (-50), 3) := by decide +kernel
theorem d2_68 : decode prog_38_method_2_code 68 = .ok (.aload_n 3, 1) := by decide +kernel
theorem d2_69 : decode prog_38_method_2_code 69 = .ok (.iload_n 2, 1) := by decide +kernel
theorem d2_70 : decode prog_38_method_2_code 70 = .ok (.iaload, 1) := by decide +kernel
theorem d2_71 : decode prog_38_method_2_code 71 = .ok (.iload_n 1, 1) := by decide +kernel
theorem d2_72 : decode prog_38_method_2_code 72 = .ok (.if_icmp .le 20, 3) := by decide +kernel
theorem d2_92 : decode prog_38_method_2_code 92 = .ok (.invokestatic 22, 3) := by decide +kernel
theorem d2_95 : decode prog_38_method_2_code 95 = .ok (.arraylength, 1) := by decide +kernel
theorem d2_96 : decode prog_38_method_2_code 96 = .ok (.newarray .double, 2) := by decide +kernel
theorem d2_98 : decode prog_38_method_2_code 98 = .ok (.astore 6, 2) := by decide +kernel
theorem d2_100 : decode prog_38_method_2_code 100 = .ok (.invokestatic 22, 3) := by decide +kernel
theorem d2_103 : decode prog_38_method_2_code 103 = .ok (.astore 7, 2) := by decide +kernel
theorem d2_105 : decode prog_38_method_2_code 105 = .ok (.aload 7, 2) := by decide +kernel
theorem d2_107 : decode prog_38_method_2_code 107 = .ok (.arraylength, 1) := by decide +kernel
theorem d2_108 : decode prog_38_method_2_code 108 = .ok (.istore 8, 2) := by decide +kernel
theorem d2_110 : decode prog_38_method_2_code 110 = .ok (.iconst 0, 1) := by decide +kernel
theorem d2_111 : decode prog_38_method_2_code 111 = .ok (.istore 9, 2) := by decide +kernel
theorem d2_113 : decode prog_38_method_2_code 113 = .ok (.iload 9, 2) := by decide +kernel
theorem d2_115 : decode prog_38_method_2_code 115 = .ok (.iload 8, 2) := by decide +kernel
theorem d2_117 : decode prog_38_method_2_code 117 = .ok (.if_icmp .ge 71, 3) := by decide +kernel
theorem d2_120 : decode prog_38_method_2_code 120 = .ok (.aload 7, 2) := by decide +kernel
theorem d2_122 : decode prog_38_method_2_code 122 = .ok (.iload 9, 2) := by decide +kernel
theorem d2_124 : decode prog_38_method_2_code 124 = .ok (.aaload, 1) := by decide +kernel
theorem d2_125 : decode prog_38_method_2_code 125 = .ok (.astore 10, 2) := by decide +kernel
theorem d2_127 : decode prog_38_method_2_code 127 = .ok (.aload 10, 2) := by decide +kernel
theorem d2_129 : decode prog_38_method_2_code 129 = .ok (.invokevirtual 27, 3) := by decide +kernel
theorem d2_132 : decode prog_38_method_2_code 132 = .ok (.istore 11, 2) := by decide +kernel
theorem d2_134 : decode prog_38_method_2_code 134 = .ok (.iload 11, 2) := by decide +kernel
theorem d2_136 : decode prog_38_method_2_code 136 = .ok (.ifCond .ne 21, 3) := by decide +kernel
theorem d2_139 : decode prog_38_method_2_code 139 = .ok (.iload_n 1, 1) := by decide +kernel
theorem d2_140 : decode prog_38_method_2_code 140 = .ok (.ifCond .ne 7, 3) := by decide +kernel
theorem d2_143 : decode prog_38_method_2_code 143 = .ok (.dconst 0, 1) := by decide +kernel
theorem d2_144 : decode prog_38_method_2_code 144 = .ok (.goto 8, 3) := by decide +kernel
theorem d2_147 : decode prog_38_method_2_code 147 = .ok (.dload 4, 2) := by decide +kernel
theorem d2_149 : decode prog_38_method_2_code 149 = .ok (.iload_n 1, 1) := by decide +kernel
theorem d2_150 : decode prog_38_method_2_code 150 = .ok (.i2d, 1) := by decide +kernel
theorem d2_151 : decode prog_38_method_2_code 151 = .ok (.ddiv, 1) := by decide +kernel
theorem d2_152 : decode prog_38_method_2_code 152 = .ok (.dstore 12, 2) := by decide +kernel
theorem d2_154 : decode prog_38_method_2_code 154 = .ok (.goto 18, 3) := by decide +kernel
theorem d2_157 : decode prog_38_method_2_code 157 = .ok (.aload_n 3, 1) := by decide +kernel
theorem d2_158 : decode prog_38_method_2_code 158 = .ok (.iload 11, 2) := by decide +kernel
theorem d2_160 : decode prog_38_method_2_code 160 = .ok (.iload_n 2, 1) := by decide +kernel
theorem d2_161 : decode prog_38_method_2_code 161 = .ok (.invokestatic 31, 3) := by decide +kernel
theorem d2_164 : decode prog_38_method_2_code 164 = .ok (.iaload, 1) := by decide +kernel
theorem d2_165 : decode prog_38_method_2_code 165 = .ok (.i2d, 1) := by decide +kernel
theorem d2_166 : decode prog_38_method_2_code 166 = .ok (.iload 11, 2) := by decide +kernel
theorem d2_168 : decode prog_38_method_2_code 168 = .ok (.i2d, 1) := by decide +kernel
theorem d2_169 : decode prog_38_method_2_code 169 = .ok (.ddiv, 1) := by decide +kernel
theorem d2_170 : decode prog_38_method_2_code 170 = .ok (.dstore 12, 2) := by decide +kernel
theorem d2_172 : decode prog_38_method_2_code 172 = .ok (.aload 6, 2) := by decide +kernel
theorem d2_174 : decode prog_38_method_2_code 174 = .ok (.aload 10, 2) := by decide +kernel
theorem d2_176 : decode prog_38_method_2_code 176 = .ok (.invokevirtual 37, 3) := by decide +kernel
theorem d2_179 : decode prog_38_method_2_code 179 = .ok (.dload 12, 2) := by decide +kernel
theorem d2_181 : decode prog_38_method_2_code 181 = .ok (.dastore, 1) := by decide +kernel
theorem d2_182 : decode prog_38_method_2_code 182 = .ok (.iinc 9 1, 3) := by decide +kernel
theorem d2_185 : decode prog_38_method_2_code 185 = .ok (.goto (-72), 3) := by decide +kernel
theorem d2_188 : decode prog_38_method_2_code 188 = .ok (.new 8, 3) := by decide +kernel
theorem d2_191 : decode prog_38_method_2_code 191 = .ok (.dup, 1) := by decide +kernel
theorem d2_192 : decode prog_38_method_2_code 192 = .ok (.aload 6, 2) := by decide +kernel
theorem d2_194 : decode prog_38_method_2_code 194 = .ok (.invokespecial 40, 3) := by decide +kernel
theorem d2_197 : decode prog_38_method_2_code 197 = .ok (.areturn, 1) := by decide +kernel
theorem d3_0 : decode prog_37_method_1_code 0 = .ok (.getstatic 22, 3) := by decide +kernel
theorem d3_3 : decode prog_37_method_1_code 3 = .ok (.invokevirtual 26, 3) := by decide +kernel
theorem d3_6 : decode prog_37_method_1_code 6 = .ok (.checkcast 27, 3) := by decide +kernel
theorem d3_9 : decode prog_37_method_1_code 9 = .ok (.areturn, 1) := by decide +kernel
theorem d4_0 : decode prog_37_method_5_code 0 = .ok (.aload_n 0, 1) := by decide +kernel
theorem d4_1 : decode prog_37_method_5_code 1 = .ok (.getfield 45, 3) := by decide +kernel
theorem d4_4 : decode prog_37_method_5_code 4 = .ok (.ireturn, 1) := by decide +kernel
theorem d5_0 : decode jdk_37_method_2_code 0 = .ok (.aload_n 0, 1) := by decide +kernel
theorem d5_1 : decode jdk_37_method_2_code 1 = .ok (.getfield 7, 3) := by decide +kernel
theorem d5_4 : decode jdk_37_method_2_code 4 = .ok (.ireturn, 1) := by decide +kernel
theorem d6_0 : decode jdk_29_method_69_code 0 = .ok (.iload_n 0, 1) := by decide +kernel
theorem d6_1 : decode jdk_29_method_69_code 1 = .ok (.iload_n 1, 1) := by decide +kernel
theorem d6_2 : decode jdk_29_method_69_code 2 = .ok (.if_icmp .gt 7, 3) := by decide +kernel
theorem d6_5 : decode jdk_29_method_69_code 5 = .ok (.iload_n 0, 1) := by decide +kernel
theorem d6_6 : decode jdk_29_method_69_code 6 = .ok (.goto 4, 3) := by decide +kernel
theorem d6_9 : decode jdk_29_method_69_code 9 = .ok (.iload_n 1, 1) := by decide +kernel
theorem d6_10 : decode jdk_29_method_69_code 10 = .ok (.ireturn, 1) := by decide +kernel
theorem d7_0 : decode prog_38_method_1_code 0 = .ok (.aload_n 0, 1) := by decide +kernel
theorem d7_1 : decode prog_38_method_1_code 1 = .ok (.invokespecial 1, 3) := by decide +kernel
theorem d7_4 : decode prog_38_method_1_code 4 = .ok (.aload_n 0, 1) := by decide +kernel
theorem d7_5 : decode prog_38_method_1_code 5 = .ok (.aload_n 1, 1) := by decide +kernel
theorem d7_6 : decode prog_38_method_1_code 6 = .ok (.putfield 7, 3) := by decide +kernel
theorem d7_9 : decode prog_38_method_1_code 9 = .ok (.return_, 1) := by decide +kernel
theorem d9_0 : decode prog_38_method_4_code 0 = .ok (.aload_n 0, 1) := by decide +kernel
theorem d9_1 : decode prog_38_method_4_code 1 = .ok (.getfield 7, 3) := by decide +kernel
theorem d9_4 : decode prog_38_method_4_code 4 = .ok (.aload_n 1, 1) := by decide +kernel
theorem d9_5 : decode prog_38_method_4_code 5 = .ok (.invokevirtual 37, 3) := by decide +kernel
theorem d9_8 : decode prog_38_method_4_code 8 = .ok (.daload, 1) := by decide +kernel
theorem d9_9 : decode prog_38_method_4_code 9 = .ok (.dreturn, 1) := by decide +kernel
theorem pn_com_example_broker_broker_eval_RunMeasure : plainName "com/example/broker/broker/eval/RunMeasure" = true := by first | (simp [plainName, overriddenIn]; done) | decide +kernel
theorem pn_java_lang_Enum : plainName "java/lang/Enum" = true := by first | (simp [plainName, overriddenIn]; done) | decide +kernel
theorem pn_com_example_broker_broker_eval_RunMeasures : plainName "com/example/broker/broker/eval/RunMeasures" = true := by first | (simp [plainName, overriddenIn]; done) | decide +kernel
theorem pd__R_I : parseMethodDescriptor "()I" = some ⟨[], some .int⟩ := by decide +kernel
theorem pd__R_ALcom_example_broker_broker_eval_RunMeasure : parseMethodDescriptor "()[Lcom/example/broker/broker/eval/RunMeasure;" = some ⟨[], some (.array (.object "com/example/broker/broker/eval/RunMeasure"))⟩ := by decide +kernel
theorem pd_II_R_I : parseMethodDescriptor "(II)I" = some ⟨[.int, .int], some .int⟩ := by decide +kernel
theorem pd_AD_R_V : parseMethodDescriptor "([D)V" = some ⟨[(.array .double)], none⟩ := by decide +kernel
theorem pn_com_example_broker_broker_eval_RunMeasuresOfPinLaw : plainName "com/example/broker/broker/eval/RunMeasuresOfPinLaw" = true := by first | (simp [plainName, overriddenIn]; done) | decide +kernel
theorem pd_AZI_R_Lcom_example_broker_broker_eval_RunMeasures : parseMethodDescriptor "([ZI)Lcom/example/broker/broker/eval/RunMeasures;" = some ⟨[(.array .boolean), .int], some (.object "com/example/broker/broker/eval/RunMeasures")⟩ := by decide +kernel
theorem pd_Lcom_example_broker_broker_eval_RunMeasure_R_D : parseMethodDescriptor "(Lcom/example/broker/broker/eval/RunMeasure;)D" = some ⟨[(.object "com/example/broker/broker/eval/RunMeasure")], some .double⟩ := by decide +kernel
open Jvm.FP.Core in
/-- the double z is finite, not below 0, m units of 2^-1074 -/
def Pz (z : UInt64) (m : Nat) : Prop := ∃ c q, val64 z = .fin false c q ∧ zmag b64 (.fin false c q) = m
open Jvm.FP.Core in
theorem Pz.nn {z : UInt64} {m : Nat} (h : Pz z m) : val64 z ≠ .nan := by
  obtain ⟨c, q, e, -⟩ := h; rw [e]; simp
open Jvm.FP.Core in
theorem Pz.zv {z : UInt64} {m : Nat} (h : Pz z m) : zval b64 (val64 z) = (m : Int) := by
  obtain ⟨c, q, e, e2⟩ := h; rw [e, ← e2]; rfl
open Jvm.FP.Core in
theorem own_Vr (E : Nat) (hE : E ≤ 2045) {n : Nat} (h : n < 9007199254740992) : ∃ c q, Jvm.FP.Core.fits b64 (.fin false c q) ∧ zmag b64 (.fin false c q) = n * 2 ^ E := by
  have hq : b64.qmin = -1074 := by decide +kernel
  have hm : b64.qmax = 971 := by decide +kernel
  obtain ⟨c', q', e1, e2⟩ := round_exact good_b64 false (c := n) (q := (E : Int) - 1074) (by show n < 2 ^ 53; omega) (by rw [hq]; omega) (by rw [hm]; omega)
  refine ⟨c', q', e1 ▸ round_fits good_b64 _, ?_⟩
  show inUnits c' q' b64.qmin = _
  rw [e2]; unfold inUnits; rw [hq, show ((E : Int) - 1074 - -1074).toNat = E by omega]
open Jvm.FP.Core in
theorem own_near (E : Nat) (hE : E ≤ 2045) {A B : Nat} {e e0 : Int} (hB : 0 < B) (h0 : e0 ≤ b64.qmin) (h0e : e0 ≤ e) {K : Nat} (hK : 2 ^ (b64.qmin - e0).toNat * B = K) (hX : inUnits A e e0 ≤ 4503599627370496 * (2 ^ E * K)) :
    ∃ c q, roundRatio b64 false A B e = .fin false c q ∧ zmag b64 (.fin false c q) * K ≤ inUnits A e e0 + 2 ^ E * K ∧ inUnits A e e0 ≤ zmag b64 (.fin false c q) * K + 2 ^ E * K := by
  have hK0 : 0 < K := by rw [← hK]; exact Nat.mul_pos (Nat.two_pow_pos _) hB
  have hG0 : 0 < 2 ^ E * K := Nat.mul_pos (Nat.two_pow_pos _) hK0
  have d1 := Nat.div_add_mod (inUnits A e e0) (2 ^ E * K)
  have d2 := Nat.mod_lt (inUnits A e e0) hG0
  have hn : inUnits A e e0 / (2 ^ E * K) ≤ 4503599627370496 := Nat.div_le_of_le_mul (by rw [Nat.mul_comm]; exact hX)
  generalize hX' : inUnits A e e0 = X at *
  generalize X / (2 ^ E * K) = n at *
  generalize X % (2 ^ E * K) = r at *
  obtain ⟨c1, q1, f1, v1⟩ := own_Vr E hE (n := n) (by omega)
  obtain ⟨c2, q2, f2, v2⟩ := own_Vr E hE (n := n + 1) (by omega)
  have m1 : zmag b64 (.fin false c1 q1) * 2 ^ (b64.qmin - e0).toNat * B = 2 ^ E * K * n := by
    rw [v1, Nat.mul_assoc, hK, Nat.mul_assoc, Nat.mul_comm]
  have m2 : zmag b64 (.fin false c2 q2) * 2 ^ (b64.qmin - e0).toNat * B = 2 ^ E * K * n + 2 ^ E * K := by
    rw [v2, Nat.mul_assoc, hK, Nat.mul_assoc, Nat.mul_comm (n + 1), Nat.mul_add, Nat.mul_one]
  have l := zmag_roundRatio_le good_b64 (s := false) (A := A) (B := B) (e := e) (e0 := e0) hB f2 (by simp) h0 h0e (by rw [m2, hX']; omega)
  have g := zmag_roundRatio_ge good_b64 (s := false) (A := A) (B := B) (e := e) (e0 := e0) hB f1 h0 h0e (by rw [m1, hX']; omega)
  rcases roundRatio_cases b64 false A B e with ⟨c', q', R⟩ | R
  · refine ⟨c', q', R, ?_, ?_⟩
    · rw [R, v2] at l
      have := Nat.mul_le_mul_right K l
      have ea : (n + 1) * 2 ^ E * K = 2 ^ E * K * n + 2 ^ E * K := by rw [Nat.mul_assoc, Nat.mul_comm (n + 1), Nat.mul_add, Nat.mul_one]
      rw [ea] at this; omega
    · rw [R, v1] at g
      have := Nat.mul_le_mul_right K g
      have ea : n * 2 ^ E * K = 2 ^ E * K * n := by rw [Nat.mul_assoc, Nat.mul_comm]
      rw [ea] at this; omega
  · exfalso
    rw [R, v2] at l
    have e1 : zmag b64 (.inf false) = 9007199254740992 * 2 ^ 2045 := by decide +kernel
    rw [e1] at l
    have p1 : (2 ^ E : Nat) ≤ 2 ^ 2045 := Nat.pow_le_pow_right (by decide) hE
    have p0 : 0 < (2 ^ E : Nat) := Nat.two_pow_pos E
    have l2 : (n + 1) * 2 ^ E ≤ 4503599627370497 * 2 ^ 2045 := Nat.mul_le_mul (by omega) p1
    have l3 := Nat.le_trans l l2
    have p3 : 0 < (2 ^ 2045 : Nat) := Nat.two_pow_pos 2045
    generalize (2 ^ 2045 : Nat) = Y at *
    omega
open Jvm.FP.Core in
theorem own_sf {sg : Bool} {n a : Nat} (h : signed sg n = (a : Int)) (h0 : 0 < a) : sg = false ∧ n = a := by
  cases sg
  · refine ⟨rfl, ?_⟩
    have e : signed false n = (n : Int) := rfl
    rw [e] at h; omega
  · have e : signed true n = -(n : Int) := rfl
    rw [e] at h; omega
open Jvm.FP.Core in
theorem Pz.add (E : Nat) (hE : E ≤ 2045) {x y : UInt64} {a b : Nat} (hx : Pz x a) (hy : Pz y b) (h0 : 0 < a + b) (hX : a + b ≤ 4503599627370496 * 2 ^ E) : ∃ m, Pz (dadd x y) m ∧ m ≤ a + b + 2 ^ E ∧ a + b ≤ m + 2 ^ E := by
  obtain ⟨c, q, ex, zx⟩ := hx
  obtain ⟨d, r, ey, zy⟩ := hy
  have fx := val64_fits x
  have fy := val64_fits y
  rw [ex] at fx
  rw [ey] at fy
  obtain ⟨sg, n, e, es, he, hs⟩ := sum_units fx fy
  have hs2 : signed sg (inUnits n e b64.qmin) = ((a + b : Nat) : Int) := by
    rw [hs, ← zx, ← zy, Int.natCast_add]; rfl
  obtain ⟨rfl, hn⟩ := own_sf hs2 h0
  obtain ⟨c', q', R, l, g⟩ := own_near E hE (A := n) (B := 1) (e := e) (e0 := b64.qmin) (by decide) (Int.le_refl _) he (K := 1) (by rw [Int.sub_self]; rfl) (by rw [hn]; omega)
  rw [hn, Nat.mul_one, Nat.mul_one] at l g
  exact ⟨_, ⟨c', q', by rw [val64_dadd, ex, ey, es]; exact R, rfl⟩, l, g⟩
open Jvm.FP.Core in
theorem Pz.mul (E : Nat) (hE : E ≤ 2045) {x y : UInt64} {a b U : Nat} (hU : 2 ^ 1074 = U) (hx : Pz x a) (hy : Pz y b) (hX : a * b ≤ 4503599627370496 * (2 ^ E * U)) : ∃ m, Pz (dmul x y) m ∧ m * U ≤ a * b + 2 ^ E * U ∧ a * b ≤ m * U + 2 ^ E * U := by
  obtain ⟨c, q, ex, zx⟩ := hx
  obtain ⟨d, r, ey, zy⟩ := hy
  have fx := val64_fits x
  have fy := val64_fits y
  rw [ex] at fx
  rw [ey] at fy
  obtain ⟨es, he, hs⟩ := product_units fx fy
  rw [zx, zy] at hs
  have hq : 2 * b64.qmin ≤ b64.qmin := by decide +kernel
  have e3 : (b64.qmin - 2 * b64.qmin).toNat = 1074 := by decide +kernel
  obtain ⟨c', q', R, l, g⟩ := own_near E hE (A := c * d) (B := 1) (e := q + r) (e0 := 2 * b64.qmin) (by decide) hq he (K := U) (by rw [e3, Nat.mul_one]; exact hU) (by rw [hs]; exact hX)
  rw [hs] at l g
  exact ⟨_, ⟨c', q', by rw [val64_dmul, ex, ey, es]; exact R, rfl⟩, l, g⟩
open Jvm.FP.Core in
theorem Pz.div (E : Nat) (hE : E ≤ 2045) {x y : UInt64} {a b U : Nat} (hU : 2 ^ 1074 = U) (hx : Pz x a) (hy : Pz y b) (hb : 0 < b) (hX : a * U ≤ 4503599627370496 * (2 ^ E * b)) : ∃ m, Pz (ddiv x y) m ∧ m * b ≤ a * U + 2 ^ E * b ∧ a * U ≤ m * b + 2 ^ E * b := by
  obtain ⟨c, q, ex, zx⟩ := hx
  obtain ⟨d, r, ey, zy⟩ := hy
  have fx := val64_fits x
  have fy := val64_fits y
  rw [ex] at fx
  rw [ey] at fy
  have hq : b64.qmin = -1074 := by decide +kernel
  have hm : b64.qmax = 971 := by decide +kernel
  have x1 : b64.qmin ≤ q := fx.2.1
  have y1 : b64.qmin ≤ r := fy.2.1
  have y2 : r ≤ b64.qmax := fy.2.2.1
  have zx' : c * 2 ^ (q - b64.qmin).toNat = a := zx
  have zy' : d * 2 ^ (r - b64.qmin).toNat = b := zy
  have hd : d ≠ 0 := fun h => by rw [h, Nat.zero_mul] at zy'; omega
  have ev : val64 (ddiv x y) = roundRatio b64 false c d (q - r) := by
    rw [val64_ddiv, ex, ey]; show (if d = 0 then _ else _) = _; rw [if_neg hd]; rfl
  have hR0 : 0 < 2 ^ (r - b64.qmin).toNat := Nat.two_pow_pos _
  have eP : (b64.qmin - (b64.qmin - 971)).toNat = 971 := by omega
  obtain ⟨N, hN⟩ : ∃ N : Nat, 2 ^ 971 = N := ⟨_, rfl⟩
  have eX : inUnits c (q - r) (b64.qmin - 971) * 2 ^ (r - b64.qmin).toNat = a * U * N := by
    unfold inUnits
    rw [Nat.mul_assoc, ← Nat.pow_add, show (q - r - (b64.qmin - 971)).toNat + (r - b64.qmin).toNat = (q - b64.qmin).toNat + (1074 + 971) by omega, Nat.pow_add, Nat.pow_add, ← Nat.mul_assoc, zx', hU, hN, Nat.mul_assoc]
  have eK : N * d * 2 ^ (r - b64.qmin).toNat = N * b := by rw [Nat.mul_assoc, zy']
  have p9 : 0 < N := by rw [← hN]; exact Nat.two_pow_pos 971
  have e2 : ∀ k : Nat, k * (2 ^ E * (N * d)) * 2 ^ (r - b64.qmin).toNat = k * (2 ^ E * b) * N := fun k => by
    rw [Nat.mul_assoc, Nat.mul_assoc (2 ^ E), eK, Nat.mul_comm N b, ← Nat.mul_assoc (2 ^ E), ← Nat.mul_assoc]
  obtain ⟨c', q', R, l, g⟩ := own_near E hE (A := c) (B := d) (e := q - r) (e0 := b64.qmin - 971) (Nat.pos_of_ne_zero hd) (by omega) (by omega) (K := N * d) (by rw [eP, hN]) (by
    refine Nat.le_of_mul_le_mul_right (c := 2 ^ (r - b64.qmin).toNat) ?_ hR0
    rw [eX, e2]; exact Nat.mul_le_mul_right N hX)
  have e1 : ∀ k : Nat, k * (N * d) * 2 ^ (r - b64.qmin).toNat = k * b * N := fun k => by rw [Nat.mul_assoc, eK, Nat.mul_comm N b, ← Nat.mul_assoc]
  have l1 := Nat.mul_le_mul_right (2 ^ (r - b64.qmin).toNat) l
  have g1 := Nat.mul_le_mul_right (2 ^ (r - b64.qmin).toNat) g
  rw [Nat.add_mul, eX, e1, e1, ← Nat.add_mul] at l1 g1
  refine ⟨_, ⟨c', q', by rw [ev]; exact R, rfl⟩, Nat.le_of_mul_le_mul_right l1 p9, Nat.le_of_mul_le_mul_right ?_ p9⟩
  exact g1
open Jvm.FP.Core in
theorem Pz.ofL {a : Int64} {n U : Nat} (hU : 2 ^ 1074 = U) (ha : a.toInt = n) (h : n < 9007199254740992) : Pz (l2d a) (n * U) := by
  obtain ⟨c, q, e⟩ := l2d_shape a
  have w := whole_zval good_b64 (val64_fits (l2d a)) (l2d_whole (a := a) (by unfold Small53; omega))
  rw [pow_qmin64] at w
  have hs : decide (a.toInt < 0) = false := by rw [ha]; simp
  rw [hs] at e
  refine ⟨c, q, e, ?_⟩
  rw [e, ha] at w
  have w2 : ((zmag b64 (.fin false c q) : Nat) : Int) = ((n * U : Nat) : Int) := by
    rw [Int.natCast_mul, ← hU]; exact w
  exact Int.ofNat.inj w2
open Jvm.FP.Core in
theorem own_small {x y : UInt64} {a b V : Nat} (hV : 2 ^ 1054 = V) (hx : Pz x a) (hy : Pz y b) (h1 : a ≤ b + V) (h2 : b ≤ a + V) : val64 (dsub x y) ≠ .nan ∧ zval b64 (val64 (dsub x y)) ≤ (V : Int) ∧ -(V : Int) ≤ zval b64 (val64 (dsub x y)) := by
  obtain ⟨c, q, ex, zx⟩ := hx
  obtain ⟨d, r, ey, zy⟩ := hy
  have fx := val64_fits x
  have fy := negate_fits (val64_fits y)
  rw [ex] at fx
  rw [ey] at fy
  obtain ⟨sg, n, e, es, he, hs⟩ := sum_units fx (t := !false) (d := d) (r := r) fy
  have hs2 : signed sg (inUnits n e b64.qmin) = (a : Int) - (b : Int) := by
    rw [hs, ← zx, ← zy]; rfl
  have ev : val64 (dsub x y) = round b64 (.fin sg n e) := by
    rw [val64_dsub, ex, ey]; show round b64 (exactSum _ (.fin (!false) d r)) = _; rw [es]
  obtain ⟨cv, qv, fv, zv⟩ := own_Vr 1054 (by omega) (n := 1) (by omega)
  rw [Nat.one_mul, hV] at zv
  have k1 : ((2 ^ (b64.qmin - b64.qmin).toNat : Nat) : Int) = 1 := by rw [Int.sub_self]; rfl
  have zp : zval b64 (.fin false cv qv) = (V : Int) := by rw [← zv]; rfl
  have zn : zval b64 (.fin true cv qv) = -(V : Int) := by rw [← zv]; rfl
  have l := zval_round_le good_b64 (s := sg) (c := n) (q := e) (e0 := b64.qmin) fv (by simp) (Int.le_refl _) he (by rw [k1, zp, hs2]; omega)
  have g := zval_round_ge good_b64 (s := sg) (c := n) (q := e) (e0 := b64.qmin) (V := .fin true cv qv) (negate_fits fv) (by simp) (Int.le_refl _) he (by rw [k1, zn, hs2]; omega)
  rw [ev]
  refine ⟨?_, by rw [← zp]; exact l, by rw [← zn]; exact g⟩
  exact roundRatio_ne_nan b64 sg n 1 e
open Jvm.FP.Core in
/-- 0.001, in units of 2^-1074 -/
theorem own_milli : val64 4562254508917369340 ≠ .nan ∧ ((2 ^ 1054 : Nat) : Int) < zval b64 (val64 4562254508917369340) := by decide +kernel
theorem own_lt {a b : Int} (h : a < b) : compare a b = .lt := by show (if a < b then _ else _) = _; rw [if_pos h]
open Jvm.FP.Core in
/-- the average: A the float sum, s the exact sum times 360360 -/
theorem own_avg {A : UInt64} {a s rel U T : Nat} (hU : 2 ^ 1074 = U) (hT : 2 ^ 1026 = T) (hA : Pz A a) (h1 : 360360 * a ≤ s * U + 360360 * 30 * T) (h2 : s * U ≤ 360360 * a + 360360 * 30 * T) (hs : s ≤ 5405400) (hr : 0 < rel) (hr2 : rel < 2147483648) {R S : Int64} (hR : R.toInt = rel) (hS : S.toInt = s) :
    (val64 (ddiv A (l2d R)) ≠ .nan ∧ val64 (dmul (ddiv A (l2d R)) (l2d R)) ≠ .nan ∧ val64 (dmul (dmul (ddiv A (l2d R)) (l2d R)) 4689934550124462080) ≠ .nan ∧ val64 (dsub (dmul (dmul (ddiv A (l2d R)) (l2d R)) 4689934550124462080) (l2d S)) ≠ .nan) ∧
    dcmp (dsub (dmul (dmul (ddiv A (l2d R)) (l2d R)) 4689934550124462080) (l2d S)) 4562254508917369340 = some .lt ∧ ∀ e : UInt64, val64 e = negate (val64 (dsub (dmul (dmul (ddiv A (l2d R)) (l2d R)) 4689934550124462080) (l2d S))) → dcmp e 4562254508917369340 = some .lt := by
  have eU : U = 281474976710656 * T := by rw [← hU, ← hT, show 1074 = 48 + 1026 from rfl, Nat.pow_add]
  have hT0 : 0 < T := by rw [← hT]; exact Nat.two_pow_pos _
  have pR := Pz.ofL hU hR (by omega)
  have pS := Pz.ofL hU hS (by omega)
  have pC : Pz 4689934550124462080 (360360 * U) := by rw [← hU]; exact ⟨6190937659146240, -34, by decide +kernel, by decide +kernel⟩
  -- the power of two below rel
  have k1 : 2 ^ rel.log2 ≤ rel := Nat.log2_self_le (by omega)
  have k2 : rel < 2 ^ (rel.log2 + 1) := Nat.lt_log2_self
  have k3 : rel.log2 ≤ 31 := by
    refine Nat.le_of_not_lt fun h => ?_
    have : 2 ^ 31 ≤ 2 ^ rel.log2 := Nat.pow_le_pow_right (by decide) (by omega)
    omega
  generalize rel.log2 = k at *
  have kE : 2 ^ (1026 - k) * 2 ^ k = T := by rw [← Nat.pow_add, show 1026 - k + k = 1026 by omega, hT]
  have kE2 : 2 ^ (1026 - k) * 2 ^ (k + 1) = 2 * T := by rw [Nat.pow_succ, ← Nat.mul_assoc, kE, Nat.mul_comm]
  have g1 : T ≤ 2 ^ (1026 - k) * rel := by rw [← kE]; exact Nat.mul_le_mul_left _ k1
  have g2 : 2 ^ (1026 - k) * rel ≤ 2 * T := by rw [← kE2]; exact Nat.mul_le_mul_left _ (Nat.le_of_lt k2)
  have sU : s * U = 281474976710656 * (s * T) := by rw [eU, Nat.mul_left_comm]
  have sT : s * T ≤ 5405400 * T := Nat.mul_le_mul_right T hs
  rw [sU] at h1 h2
  have aT : a ≤ 4503599627370496 * T := by omega
  have hU0 : 0 < U := by omega
  -- the quotient
  obtain ⟨m, pm, m1, m2⟩ := Pz.div (1026 - k) (by omega) hU hA pR (Nat.mul_pos hr hU0) (by
    have := Nat.mul_le_mul_right U (Nat.le_trans aT (Nat.mul_le_mul_left 4503599627370496 g1))
    rw [Nat.mul_assoc 4503599627370496, Nat.mul_assoc (2 ^ (1026 - k))] at this; exact this)
  have m1' : m * rel ≤ a + 2 ^ (1026 - k) * rel := Nat.le_of_mul_le_mul_right (c := U) (by rw [Nat.add_mul, Nat.mul_assoc, Nat.mul_assoc (2 ^ (1026 - k))]; exact m1) hU0
  have m2' : a ≤ m * rel + 2 ^ (1026 - k) * rel := Nat.le_of_mul_le_mul_right (c := U) (by rw [Nat.add_mul, Nat.mul_assoc m, Nat.mul_assoc (2 ^ (1026 - k))]; exact m2) hU0
  generalize 2 ^ (1026 - k) * rel = w at *
  -- times rel
  obtain ⟨n, pn, n1, n2⟩ := Pz.mul 1026 (by omega) hU pm pR (by
    rw [hT, ← Nat.mul_assoc, ← Nat.mul_assoc]; refine Nat.mul_le_mul_right U ?_; omega)
  rw [hT, ← Nat.mul_assoc, ← Nat.add_mul] at n1
  rw [hT, ← Nat.mul_assoc, ← Nat.add_mul] at n2
  have n1' := Nat.le_of_mul_le_mul_right n1 hU0
  have n2' := Nat.le_of_mul_le_mul_right n2 hU0
  generalize m * rel = v at *
  -- times 360360
  have hT2 : 2 ^ 1046 = 1048576 * T := by rw [← hT, show 1046 = 20 + 1026 from rfl, Nat.pow_add]
  obtain ⟨o, po, o1, o2⟩ := Pz.mul 1046 (by omega) hU pn pC (by
    rw [hT2, ← Nat.mul_assoc, ← Nat.mul_assoc]; refine Nat.mul_le_mul_right U ?_; omega)
  rw [hT2, ← Nat.mul_assoc, ← Nat.add_mul] at o1
  rw [hT2, ← Nat.mul_assoc, ← Nat.add_mul] at o2
  have o1' := Nat.le_of_mul_le_mul_right o1 hU0
  have o2' := Nat.le_of_mul_le_mul_right o2 hU0
  -- less s
  have hV : 2 ^ 1054 = 268435456 * T := by rw [← hT, show 1054 = 28 + 1026 from rfl, Nat.pow_add]
  obtain ⟨d0, d1, d2⟩ := own_small hV po pS (by rw [sU]; omega) (by rw [sU]; omega)
  obtain ⟨c0, c1⟩ := own_milli
  rw [hV] at c1
  refine ⟨⟨pm.nn, pn.nn, po.nn, d0⟩, ?_, ?_⟩
  · rw [dcmp_zval d0 c0, own_lt (by omega)]
  · intro e he; rw [dcmp_zval (by rw [he]; exact negate_ne_nan d0) c0, he, zval_negate, own_lt (by omega)]
/-- how many of the first k are set; the exact sum of hits/i, times 360360 -/
def own_cnt (g : Nat → Bool) : Nat → Nat
  | 0 => 0
  | k + 1 => own_cnt g k + (if g k then 1 else 0)
def own_sm (g : Nat → Bool) : Nat → Nat
  | 0 => 0
  | k + 1 => own_sm g k + (if g k then own_cnt g (k + 1) * (360360 / (k + 1)) else 0)
theorem own_cnt_le (g : Nat → Bool) : ∀ k, own_cnt g k ≤ k
  | 0 => Nat.le_refl _
  | k + 1 => by have := own_cnt_le g k; unfold own_cnt; split <;> omega
theorem own_sm_le (g : Nat → Bool) : ∀ k, own_sm g k ≤ 360360 * k
  | 0 => Nat.zero_le _
  | k + 1 => by
    have h := own_sm_le g k
    have c := own_cnt_le g (k + 1)
    have d : own_cnt g (k + 1) * (360360 / (k + 1)) ≤ (k + 1) * (360360 / (k + 1)) := Nat.mul_le_mul_right _ c
    have d2 : (k + 1) * (360360 / (k + 1)) ≤ 360360 := Nat.mul_div_le _ _
    show own_sm g k + (if g k then own_cnt g (k + 1) * (360360 / (k + 1)) else 0) ≤ 360360 * (k + 1)
    split <;> omega
open Jvm.FP.Core in
/-- the float sum behind k places -/
def own_acc (g : Nat → Bool) : Nat → UInt64
  | 0 => 0
  | k + 1 => if g k then dadd (own_acc g k) (ddiv (l2d (Int64.ofNat (own_cnt g (k + 1)))) (l2d (Int64.ofNat (k + 1)))) else own_acc g k
theorem own_div360 : ∀ i, i < 16 → 0 < i → i * (360360 / i) = 360360 := by decide +kernel
theorem own_i64 {n : Nat} (h : n < 9007199254740992) : (Int64.ofNat n).toInt = n := Int64.toInt_ofNat_of_lt (by omega)
open Jvm.FP.Core in
theorem own_accP (g : Nat → Bool) {U T : Nat} (hU : 2 ^ 1074 = U) (hT : 2 ^ 1026 = T) : ∀ k, k ≤ 15 → (∀ j, j < k → g j = true → val64 (ddiv (l2d (Int64.ofNat (own_cnt g (j + 1)))) (l2d (Int64.ofNat (j + 1)))) ≠ .nan) ∧ ∃ a, Pz (own_acc g k) a ∧ 360360 * a ≤ own_sm g k * U + 360360 * (2 * k) * T ∧ own_sm g k * U ≤ 360360 * a + 360360 * (2 * k) * T := by
  intro k
  induction k with
  | zero => intro _; exact ⟨fun j hj => absurd hj (Nat.not_lt_zero j), 0, ⟨0, -1074, show val64 0 = _ by decide +kernel, by decide +kernel⟩, by simp [own_sm], by simp [own_sm]⟩
  | succ k ih =>
    intro hk
    obtain ⟨hN, a, pa, a1, a2⟩ := ih (by omega)
    have eU : U = 281474976710656 * T := by rw [← hU, ← hT, show 1074 = 48 + 1026 from rfl, Nat.pow_add]
    have hT0 : 0 < T := by rw [← hT]; exact Nat.two_pow_pos _
    have hU0 : 0 < U := by omega
    by_cases hg : g k = true
    · have c0 : 0 < own_cnt g (k + 1) := by unfold own_cnt; rw [if_pos hg]; omega
      have c1 := own_cnt_le g (k + 1)
      have es : own_sm g (k + 1) = own_sm g k + own_cnt g (k + 1) * (360360 / (k + 1)) := by
        show own_sm g k + (if g k then _ else 0) = _; rw [if_pos hg]
      have ea : own_acc g (k + 1) = dadd (own_acc g k) (ddiv (l2d (Int64.ofNat (own_cnt g (k + 1)))) (l2d (Int64.ofNat (k + 1)))) := by
        show (if g k then _ else _) = _; rw [if_pos hg]
      have hd := own_div360 (k + 1) (by omega) (by omega)
      have sl := own_sm_le g k
      generalize hcc : own_cnt g (k + 1) = c at *
      generalize 360360 / (k + 1) = f at *
      have pc : Pz (l2d (Int64.ofNat c)) (c * U) := Pz.ofL hU (own_i64 (by omega)) (by omega)
      have pi : Pz (l2d (Int64.ofNat (k + 1))) ((k + 1) * U) := Pz.ofL hU (own_i64 (by omega)) (by omega)
      have cT : c * T ≤ 15 * T := Nat.mul_le_mul_right T (by omega)
      have cU : c * U = 281474976710656 * (c * T) := by rw [eU, Nat.mul_left_comm]
      have iT : T ≤ (k + 1) * T := Nat.le_mul_of_pos_left T (by omega)
      obtain ⟨m, pm, m1, m2⟩ := Pz.div 1026 (by omega) hU pc pi (Nat.mul_pos (by omega) hU0) (by
        rw [hT, ← Nat.mul_assoc, ← Nat.mul_assoc]; refine Nat.mul_le_mul_right U ?_
        rw [cU, Nat.mul_assoc, Nat.mul_comm T (k + 1)]; omega)
      rw [hT, ← Nat.mul_assoc, ← Nat.mul_assoc, ← Nat.add_mul] at m1
      rw [hT, ← Nat.mul_assoc, ← Nat.mul_assoc, ← Nat.add_mul] at m2
      have m1' := Nat.le_of_mul_le_mul_right m1 hU0
      have m2' := Nat.le_of_mul_le_mul_right m2 hU0
      -- times f: (k+1) * f = 360360
      have f1 := Nat.mul_le_mul_right f m1'
      have f2 := Nat.mul_le_mul_right f m2'
      have em : m * (k + 1) * f = 360360 * m := by rw [Nat.mul_assoc, hd, Nat.mul_comm]
      have eT : T * (k + 1) * f = 360360 * T := by rw [Nat.mul_assoc, hd, Nat.mul_comm]
      have ec : c * U * f = c * f * U := by rw [Nat.mul_right_comm]
      rw [Nat.add_mul, em, eT, ec] at f1
      rw [Nat.add_mul, em, eT, ec] at f2
      have kk : 360360 * (2 * k) * T = 720720 * (k * T) := by rw [← Nat.mul_assoc 360360, Nat.mul_assoc]
      have kk2 : 360360 * (2 * (k + 1)) * T = 720720 * (k * T) + 720720 * T := by rw [← Nat.mul_assoc 360360, Nat.mul_assoc, Nat.add_mul, Nat.one_mul, Nat.mul_add]
      have kT : k * T ≤ 14 * T := Nat.mul_le_mul_right T (by omega)
      have sT : own_sm g k * U ≤ 5045040 * U := Nat.mul_le_mul_right U (by omega)
      rw [kk] at a1 a2
      have cf : c * f * U ≤ 360360 * U := Nat.mul_le_mul_right U (by rw [← hd]; exact Nat.mul_le_mul_right f (by omega))
      have cf0 : 0 < c * U := Nat.mul_pos c0 hU0
      have m0 : 0 < m := by
        refine Nat.pos_of_ne_zero fun h => ?_
        rw [h, Nat.zero_mul, Nat.zero_add] at m2'
        have : U ≤ c * U := Nat.le_mul_of_pos_left U c0
        have kT2 : T * (k + 1) ≤ T * 15 := Nat.mul_le_mul_left T (by omega)
        omega
      obtain ⟨b, pb, b1, b2⟩ := Pz.add 1026 (by omega) pa pm (by omega) (by rw [hT]; omega)
      rw [hT] at b1 b2
      refine ⟨fun j hj hg' => ?_, b, by rw [ea]; exact pb, ?_, ?_⟩
      · by_cases q : j = k
        · subst q; rw [hcc]; exact pm.nn
        · exact hN j (by omega) hg'
      · rw [es, Nat.add_mul, kk2]; omega
      · rw [es, Nat.add_mul, kk2]; omega
    · have es : own_sm g (k + 1) = own_sm g k := by show own_sm g k + (if g k then _ else 0) = _; rw [if_neg hg]; rfl
      have ea : own_acc g (k + 1) = own_acc g k := by show (if g k then _ else _) = _; rw [if_neg hg]
      refine ⟨fun j hj hg' => ?_, a, by rw [ea]; exact pa, ?_, ?_⟩
      · by_cases q : j = k
        · subst q; exact absurd hg' hg
        · exact hN j (by omega) hg'
      · rw [es]; refine Nat.le_trans a1 (Nat.add_le_add_left (Nat.mul_le_mul_right T (by omega)) _)
      · rw [es]; refine Nat.le_trans a2 (Nat.add_le_add_left (Nat.mul_le_mul_right T (by omega)) _)

def b01 (b : Bool) : Int32 := if b then 1 else 0
theorem own_s1 (n : Nat) : Int32.ofNat n + 1 = Int32.ofNat (n + 1) := (Int32.ofNat_add n 1).symm
theorem own_p1 (n : Nat) : Int32.ofNat (n + 1) - 1 = Int32.ofNat n := by
  rw [Int32.ofNat_add]; exact Int32.add_sub_cancel _ _
theorem own_i2d {n : Nat} (h : n < 2147483648) : FP.i2d (Int32.ofNat n) = FP.l2d (Int64.ofNat n) := by
  have e : (Int32.ofNat n).toInt64 = Int64.ofNat n := Int64.toInt_inj.mp (by rw [Int32.toInt_toInt64, W.i32 h, own_i64 (by omega)])
  rw [i2d_w, e]
theorem own_no {z : UInt64} (h : FP.Core.val64 z ≠ .nan) : Jvm.Free.Fl.NoNaN64 z := Jvm.Free.Fl.val64_no.mpr h
theorem own_cnt_cut {g : Nat → Bool} {n : Nat} (hg : ∀ j, n ≤ j → g j = false) : ∀ d, own_cnt g (n + d) = own_cnt g n
  | 0 => rfl
  | d + 1 => by
    show own_cnt g (n + d) + (if g (n + d) then 1 else 0) = _
    rw [hg _ (Nat.le_add_right _ _), own_cnt_cut hg d]; rfl
theorem own_cnt_up {g : Nat → Bool} {n k : Nat} (hg : ∀ j, n ≤ j → g j = false) (h : n ≤ k) : own_cnt g k = own_cnt g n := by
  have := own_cnt_cut hg (k - n); rwa [Nat.add_sub_cancel' h] at this
theorem own_cnt_min {g : Nat → Bool} {n : Nat} (hg : ∀ j, n ≤ j → g j = false) (k : Nat) : own_cnt g (min k n) = own_cnt g k := by
  by_cases h : k ≤ n
  · rw [Nat.min_eq_left h]
  · rw [Nat.min_eq_right (by omega)]; exact (own_cnt_up hg (by omega)).symm
theorem own_sm_up {g : Nat → Bool} {n : Nat} (hg : ∀ j, n ≤ j → g j = false) : ∀ d, own_sm g (n + d) = own_sm g n
  | 0 => rfl
  | d + 1 => by
    show own_sm g (n + d) + (if g (n + d) then _ else 0) = _
    rw [hg _ (Nat.le_add_right _ _), own_sm_up hg d]; rfl
theorem own_acc_up {g : Nat → Bool} {n : Nat} (hg : ∀ j, n ≤ j → g j = false) : ∀ d, own_acc g (n + d) = own_acc g n
  | 0 => rfl
  | d + 1 => by
    show (if g (n + d) then _ else own_acc g (n + d)) = _
    rw [hg _ (Nat.le_add_right _ _), own_acc_up hg d]; rfl
theorem own_cntY {g : Nat → Bool} {k : Nat} (hg : g k = true) : own_cnt g (k + 1) = own_cnt g k + 1 := by show _ + (if g k then 1 else 0) = _; rw [if_pos hg]
theorem own_cntN {g : Nat → Bool} {k : Nat} (hg : g k = false) : own_cnt g (k + 1) = own_cnt g k := by show _ + (if g k then 1 else 0) = _; rw [hg]; rfl
theorem own_smY {g : Nat → Bool} {k : Nat} (hg : g k = true) {C : Int32} (hC : C = Int32.ofNat (360360 / (k + 1))) : Int32.ofNat (own_sm g k) + Int32.ofNat (own_cnt g k + 1) * C = Int32.ofNat (own_sm g (k + 1)) := by
  subst hC
  rw [← Int32.ofNat_mul, ← Int32.ofNat_add, ← own_cntY hg]
  show _ = Int32.ofNat (own_sm g k + (if g k then own_cnt g (k + 1) * (360360 / (k + 1)) else 0)); rw [if_pos hg]
theorem own_smN {g : Nat → Bool} {k : Nat} (hg : g k = false) : own_sm g (k + 1) = own_sm g k := by show _ + (if g k then _ else 0) = _; rw [hg]; rfl
theorem own_accY {g : Nat → Bool} {k : Nat} (hg : g k = true) (hk : k < 2147483647) : FP.dadd (own_acc g k) (FP.ddiv (FP.i2d (Int32.ofNat (own_cnt g k + 1))) (FP.i2d (Int32.ofNat (k + 1)))) = own_acc g (k + 1) := by
  have h := own_cnt_le g (k + 1)
  rw [own_cntY hg] at h
  rw [own_i2d (by omega), own_i2d (by omega), ← own_cntY hg]
  show _ = (if g k then _ else _); rw [if_pos hg]
theorem own_accN {g : Nat → Bool} {k : Nat} (hg : g k = false) : own_acc g (k + 1) = own_acc g k := by show (if g k then _ else _) = _; rw [hg]; rfl
theorem own_nanQ {g : Nat → Bool} {n k : Nat} (hn : n ≤ 15) (hk : k < n) (hg : g k = true) : Jvm.Free.Fl.NoNaN64 (FP.ddiv (FP.i2d (Int32.ofNat (own_cnt g k + 1))) (FP.i2d (Int32.ofNat (k + 1)))) := by
  have h := own_cnt_le g (k + 1)
  rw [own_cntY hg] at h
  rw [own_i2d (by omega), own_i2d (by omega), ← own_cntY hg]
  exact own_no ((own_accP g rfl rfl n hn).1 k hk hg)
theorem own_nanA {g : Nat → Bool} {k : Nat} (hk : k ≤ 15) : Jvm.Free.Fl.NoNaN64 (own_acc g k) := by
  obtain ⟨-, a, pa, -⟩ := own_accP g rfl rfl k hk; exact own_no pa.nn
theorem own_nanC {c : Nat} (hc : c < 2147483648) {z : UInt64} {d : Nat} (hd : 0 < d) (hz : Pz z (d * 2 ^ 1074)) (hb : c ≤ 16 * d) : Jvm.Free.Fl.NoNaN64 (FP.ddiv (FP.i2d (Int32.ofNat c)) z) := by
  rw [own_i2d hc]
  obtain ⟨U, hU⟩ : ∃ U : Nat, 2 ^ 1074 = U := ⟨_, rfl⟩
  obtain ⟨T, hT⟩ : ∃ T : Nat, 2 ^ 1026 = T := ⟨_, rfl⟩
  have eU : U = 281474976710656 * T := by rw [← hU, ← hT, show 1074 = 48 + 1026 from rfl, Nat.pow_add]
  have hT0 : 0 < T := by rw [← hT]; exact Nat.two_pow_pos _
  rw [hU] at hz
  obtain ⟨m, pm, -⟩ := Pz.div 1026 (by omega) hU (Pz.ofL hU (own_i64 (n := c) (by omega)) (by omega)) hz (Nat.mul_pos hd (by omega)) (by
    rw [hT, ← Nat.mul_assoc, ← Nat.mul_assoc]; refine Nat.mul_le_mul_right U ?_
    have : c * U ≤ 16 * d * U := Nat.mul_le_mul_right U hb
    refine Nat.le_trans this ?_
    rw [eU, Nat.mul_assoc, Nat.mul_assoc, Nat.mul_left_comm d, Nat.mul_comm d T]; omega)
  exact own_no pm.nn
def own_max (a b : Int32) : Int32 := if a < b then b else a
/-- what the measures are: the average, and the precisions -/
def own_map (g : Nat → Bool) (n : Nat) (rel : Int32) : UInt64 := if rel = 0 then 0 else FP.ddiv (own_acc g n) (FP.i2d rel)
theorem own_k5 : FP.i2d 5 = 4617315517961601024 := by decide +kernel
open Jvm.FP.Core in
theorem own_z5 : Pz 4617315517961601024 (5 * 2 ^ 1074) := ⟨5629499534213120, -50, by decide +kernel, by decide +kernel⟩
theorem own_k10 : FP.i2d 10 = 4621819117588971520 := by decide +kernel
open Jvm.FP.Core in
theorem own_z10 : Pz 4621819117588971520 (10 * 2 ^ 1074) := ⟨5629499534213120, -49, by decide +kernel, by decide +kernel⟩
theorem own_k15 : FP.i2d 15 = 4624633867356078080 := by decide +kernel
open Jvm.FP.Core in
theorem own_z15 : Pz 4624633867356078080 (15 * 2 ^ 1074) := ⟨8444249301319680, -49, by decide +kernel, by decide +kernel⟩
theorem own_k20 : FP.i2d 20 = 4626322717216342016 := by decide +kernel
open Jvm.FP.Core in
theorem own_z20 : Pz 4626322717216342016 (20 * 2 ^ 1074) := ⟨5629499534213120, -48, by decide +kernel, by decide +kernel⟩
theorem own_k30 : FP.i2d 30 = 4629137466983448576 := by decide +kernel
open Jvm.FP.Core in
theorem own_z30 : Pz 4629137466983448576 (30 * 2 ^ 1074) := ⟨8444249301319680, -48, by decide +kernel, by decide +kernel⟩
def En (Z : State) (h : Heap) (va p0 p1 p2 p3 p4 p5 : Addr) (kv : ClassId) : Prop := Sta Z h "com/example/broker/broker/eval/RunMeasure" "$VALUES" "[Lcom/example/broker/broker/eval/RunMeasure;" (.ref va) ∧ Exa Z h va "[Lcom/example/broker/broker/eval/RunMeasure;" ∧ Arv Z h va kv (.object "com/example/broker/broker/eval/RunMeasure") 6 [.ref p0, .ref p1, .ref p2, .ref p3, .ref p4, .ref p5] .null ∧ Sta Z h "com/example/broker/broker/eval/RunMeasure" "MAP" "Lcom/example/broker/broker/eval/RunMeasure;" (.ref p0) ∧ Sta Z h "com/example/broker/broker/eval/RunMeasure" "P_5" "Lcom/example/broker/broker/eval/RunMeasure;" (.ref p1) ∧ Sta Z h "com/example/broker/broker/eval/RunMeasure" "P_10" "Lcom/example/broker/broker/eval/RunMeasure;" (.ref p2) ∧ Sta Z h "com/example/broker/broker/eval/RunMeasure" "P_15" "Lcom/example/broker/broker/eval/RunMeasure;" (.ref p3) ∧ Sta Z h "com/example/broker/broker/eval/RunMeasure" "P_20" "Lcom/example/broker/broker/eval/RunMeasure;" (.ref p4) ∧ Sta Z h "com/example/broker/broker/eval/RunMeasure" "P_30" "Lcom/example/broker/broker/eval/RunMeasure;" (.ref p5) ∧ Exa Z h p0 "com/example/broker/broker/eval/RunMeasure" ∧ Exa Z h p1 "com/example/broker/broker/eval/RunMeasure" ∧ Exa Z h p2 "com/example/broker/broker/eval/RunMeasure" ∧ Exa Z h p3 "com/example/broker/broker/eval/RunMeasure" ∧ Exa Z h p4 "com/example/broker/broker/eval/RunMeasure" ∧ Exa Z h p5 "com/example/broker/broker/eval/RunMeasure" ∧ Fld Z h p0 "com/example/broker/broker/eval/RunMeasure" "cutoff" "I" (.int 0) ∧ Fld Z h p1 "com/example/broker/broker/eval/RunMeasure" "cutoff" "I" (.int 5) ∧ Fld Z h p2 "com/example/broker/broker/eval/RunMeasure" "cutoff" "I" (.int 10) ∧ Fld Z h p3 "com/example/broker/broker/eval/RunMeasure" "cutoff" "I" (.int 15) ∧ Fld Z h p4 "com/example/broker/broker/eval/RunMeasure" "cutoff" "I" (.int 20) ∧ Fld Z h p5 "com/example/broker/broker/eval/RunMeasure" "cutoff" "I" (.int 30) ∧ Fld Z h p0 "java/lang/Enum" "ordinal" "I" (.int 0) ∧ Fld Z h p1 "java/lang/Enum" "ordinal" "I" (.int 1) ∧ Fld Z h p2 "java/lang/Enum" "ordinal" "I" (.int 2) ∧ Fld Z h p3 "java/lang/Enum" "ordinal" "I" (.int 3) ∧ Fld Z h p4 "java/lang/Enum" "ordinal" "I" (.int 4) ∧ Fld Z h p5 "java/lang/Enum" "ordinal" "I" (.int 5)
theorem En.ext {Z : State} {h h' : Heap} {va p0 p1 p2 p3 p4 p5 : Addr} {kv : ClassId} (S : En Z h va p0 p1 p2 p3 p4 p5 kv) (E : Ext h h') : En Z h' va p0 p1 p2 p3 p4 p5 kv := ⟨(S.1).ext E, (S.2.1).ext E, (S.2.2.1).ext E, (S.2.2.2.1).ext E, (S.2.2.2.2.1).ext E, (S.2.2.2.2.2.1).ext E, (S.2.2.2.2.2.2.1).ext E, (S.2.2.2.2.2.2.2.1).ext E, (S.2.2.2.2.2.2.2.2.1).ext E, (S.2.2.2.2.2.2.2.2.2.1).ext E, (S.2.2.2.2.2.2.2.2.2.2.1).ext E, (S.2.2.2.2.2.2.2.2.2.2.2.1).ext E, (S.2.2.2.2.2.2.2.2.2.2.2.2.1).ext E, (S.2.2.2.2.2.2.2.2.2.2.2.2.2.1).ext E, (S.2.2.2.2.2.2.2.2.2.2.2.2.2.2.1).ext E, (S.2.2.2.2.2.2.2.2.2.2.2.2.2.2.2.1).ext E, (S.2.2.2.2.2.2.2.2.2.2.2.2.2.2.2.2.1).ext E, (S.2.2.2.2.2.2.2.2.2.2.2.2.2.2.2.2.2.1).ext E, (S.2.2.2.2.2.2.2.2.2.2.2.2.2.2.2.2.2.2.1).ext E, (S.2.2.2.2.2.2.2.2.2.2.2.2.2.2.2.2.2.2.2.1).ext E, (S.2.2.2.2.2.2.2.2.2.2.2.2.2.2.2.2.2.2.2.2.1).ext E, (S.2.2.2.2.2.2.2.2.2.2.2.2.2.2.2.2.2.2.2.2.2.1).ext E, (S.2.2.2.2.2.2.2.2.2.2.2.2.2.2.2.2.2.2.2.2.2.2.1).ext E, (S.2.2.2.2.2.2.2.2.2.2.2.2.2.2.2.2.2.2.2.2.2.2.2.1).ext E, (S.2.2.2.2.2.2.2.2.2.2.2.2.2.2.2.2.2.2.2.2.2.2.2.2.1).ext E, (S.2.2.2.2.2.2.2.2.2.2.2.2.2.2.2.2.2.2.2.2.2.2.2.2.2.1).ext E, (S.2.2.2.2.2.2.2.2.2.2.2.2.2.2.2.2.2.2.2.2.2.2.2.2.2.2).ext E⟩
def QV (Z : State) (p0 p1 p2 p3 p4 p5 : Addr) (h0 : Heap) (v : Option Value) (h : Heap) (L : List Loc) : Prop := ∃ a k, v = some (.ref a) ∧ W.Frw [] h0.size L ∧ Ext h0 h ∧ Arv Z h a k (.object "com/example/broker/broker/eval/RunMeasure") 6 [.ref p0, .ref p1, .ref p2, .ref p3, .ref p4, .ref p5] .null
set_option maxRecDepth 65536 in
set_option maxHeartbeats 40000000 in
theorem c_values (l : Launch) (Z : State) (a0 : Array Value) (hw : ∀ d ∈ tables_1, d.before a0 Z = true) (va p0 p1 p2 p3 p4 p5 : Addr) (kv : ClassId) (h0 : Heap) (S : En Z h0 va p0 p1 p2 p3 p4 p5 kv)  : W.MetN l Z (⟨"com/example/broker/broker/eval/RunMeasure", "values", "()[Lcom/example/broker/broker/eval/RunMeasure;"⟩ : MethodName) prog_37_method_1_code 0 ((Option.some (Jvm.ClassFile.FieldType.array (Jvm.ClassFile.FieldType.object "com/example/broker/broker/eval/RunMeasure")))) [] ({ frames := 1, cells := 1, slots := 6, locals := 14 } : Room) #[]  h0 (QV Z p0 p1 p2 p3 p4 p5 h0) := by
  refine W.MetN.mk (ls0 := #[]) [] (plainFor_of_name pn_com_example_broker_broker_eval_RunMeasure) (fun m => by first | (simp [entryFrame, mkF, argsToLocals, Value.category]; done) | rfl) ?_
  intro p e s m below meth c s₁ hml hret hnm hlk P0
  show W.Go p.tables e below _ (s₁.setTop (mkF m 0 #[] []))
  refine P0.getS (pc1 := 3) (wd hw (k := 14) rfl) Via.refl S.1 d3_0 rfl ?_
  intro T101 P101
  refine P101.cloneR (pc1 := 6) (cap := 6) (W := 0) (wd hw (k := 16) rfl) (wd hw (k := 17) rfl) (wd hw (k := 21) rfl) (wd hw (k := 19) rfl) (wd hw (k := 20) rfl) (wd hw (k := 22) rfl) (S.2.2.1) (S.2.1) (by rw [hml]; rfl) (by decide) (Nat.le_of_eq rfl) (by decide) (by decide) (by decide) (by decide) d3_3 rfl ?_
  intro T5 h5 x5 g5 P5 E5 V5 A5
  refine P5.castY (pc1 := 9) (wd hw (k := 30) rfl) (Ins.of_exa A5 (wd hw (k := 31) rfl)) d3_6 rfl ?_
  intro T6 P6
  exact P6.retAN hlk hret rfl rfl rfl d3_9 (by decide) (by decide) ⟨x5, kv, rfl, P6.fr, P6.ext0, V5⟩
set_option maxRecDepth 65536 in
set_option maxHeartbeats 40000000 in
theorem c_cut (l : Launch) (Z : State) (a0 : Array Value) (hw : ∀ d ∈ tables_1, d.before a0 Z = true) (x : Addr) (z : Int32) (h0 : Heap) (F0 : Fld Z h0 x "com/example/broker/broker/eval/RunMeasure" "cutoff" "I" (.int z)) : W.MetN l Z (⟨"com/example/broker/broker/eval/RunMeasure", "cutoff", "()I"⟩ : MethodName) prog_37_method_5_code 1 ((Option.some Jvm.ClassFile.FieldType.int)) [] ({ frames := 0, cells := 0, slots := 0, locals := 0 } : Room) #[.ref x]  h0 (W.Pure (some (.int z)) h0) := by
  refine W.MetN.mk (ls0 := #[.val (.ref x)]) [] (plainFor_of_name pn_com_example_broker_broker_eval_RunMeasure) (fun m => by first | (simp [entryFrame, mkF, argsToLocals, Value.category]; done) | rfl) ?_
  intro p e s m below meth c s₁ hml hret hnm hlk P0
  show W.Go p.tables e below _ (s₁.setTop (mkF m 0 #[.val (.ref x)] []))
  refine W.g_aloadN (pc1 := 1) P0.q d4_0 rfl rfl rfl ?_
  refine P0.getF (host := "") (pc1 := 4) (Or.inl (wd hw (k := 38) rfl)) Via.refl F0 d4_1 rfl ?_
  intro T102 P102
  exact P102.retIN hlk hret d4_4 (by decide) (by decide) ⟨rfl, rfl, rfl⟩
set_option maxRecDepth 65536 in
set_option maxHeartbeats 40000000 in
theorem c_ord (l : Launch) (Z : State) (a0 : Array Value) (hw : ∀ d ∈ tables_1, d.before a0 Z = true) (x : Addr) (z : Int32) (h0 : Heap) (F0 : Fld Z h0 x "java/lang/Enum" "ordinal" "I" (.int z)) : W.MetN l Z (⟨"java/lang/Enum", "ordinal", "()I"⟩ : MethodName) jdk_37_method_2_code 1 ((Option.some Jvm.ClassFile.FieldType.int)) [] ({ frames := 0, cells := 0, slots := 0, locals := 0 } : Room) #[.ref x]  h0 (W.Pure (some (.int z)) h0) := by
  refine W.MetN.mk (ls0 := #[.val (.ref x)]) [] (plainFor_of_name pn_java_lang_Enum) (fun m => by first | (simp [entryFrame, mkF, argsToLocals, Value.category]; done) | rfl) ?_
  intro p e s m below meth c s₁ hml hret hnm hlk P0
  show W.Go p.tables e below _ (s₁.setTop (mkF m 0 #[.val (.ref x)] []))
  refine W.g_aloadN (pc1 := 1) P0.q d5_0 rfl rfl rfl ?_
  refine P0.getF (host := "") (pc1 := 4) (Or.inl (wd hw (k := 47) rfl)) Via.refl F0 d5_1 rfl ?_
  intro T103 P103
  exact P103.retIN hlk hret d5_4 (by decide) (by decide) ⟨rfl, rfl, rfl⟩
set_option maxRecDepth 65536 in
set_option maxHeartbeats 40000000 in
theorem c_min (l : Launch) (Z : State) (a0 : Array Value) (hw : ∀ d ∈ tables_1, d.before a0 Z = true) (k n : Nat) (hk : k < 2147483648) (hn : n < 2147483648) (h0 : Heap) : W.MetN l Z (⟨"java/lang/Math", "min", "(II)I"⟩ : MethodName) jdk_29_method_69_code 2 ((Option.some Jvm.ClassFile.FieldType.int)) [] ({ frames := 0, cells := 0, slots := 0, locals := 0 } : Room) #[.int (Int32.ofNat k), .int (Int32.ofNat n)]  h0 (W.Pure (some (.int (Int32.ofNat (min k n)))) h0) := by
  refine W.MetN.mk (ls0 := #[.val (.int (Int32.ofNat k)), .val (.int (Int32.ofNat n))]) [] (Jvm.Free.JP.mathPlain rfl (by decide +kernel)) (fun m => by first | (simp [entryFrame, mkF, argsToLocals, Value.category]; done) | rfl) ?_
  intro p e s m below meth c s₁ hml hret hnm hlk P0
  show W.Go p.tables e below _ (s₁.setTop (mkF m 0 #[.val (.int (Int32.ofNat k)), .val (.int (Int32.ofNat n))] []))
  refine W.g_iloadN (pc1 := 1) P0.q d6_0 rfl rfl ?_
  refine W.g_iloadN (pc1 := 2) P0.q d6_1 rfl rfl ?_
  refine W.g_cmp (pc1 := 9) (pc2 := 5) P0.q d6_2 (by decide) rfl rfl (fun (hc : (Int32.ofNat n) < (Int32.ofNat k)) => ?_) (fun (hc : ¬ ((Int32.ofNat n) < (Int32.ofNat k))) => ?_)
  · refine W.g_iloadN (pc1 := 10) P0.q d6_9 rfl rfl ?_
    rw [W.lt32 hn hk] at hc
    exact P0.retIN hlk hret d6_10 (by decide) (by decide) ⟨by rw [Nat.min_eq_right (Nat.le_of_lt hc)], rfl, rfl⟩
  · refine W.g_iloadN (pc1 := 6) P0.q d6_5 rfl rfl ?_
    refine W.g_goto (pc1 := 10) P0.q d6_6 (by decide) rfl ?_
    rw [W.lt32 hn hk] at hc
    exact P0.retIN hlk hret d6_10 (by decide) (by decide) ⟨by rw [Nat.min_eq_left (Nat.le_of_not_lt hc)], rfl, rfl⟩
set_option maxRecDepth 65536 in
set_option maxHeartbeats 40000000 in
theorem c_max (l : Launch) (Z : State) (a0 : Array Value) (hw : ∀ d ∈ tables_1, d.before a0 Z = true) (x1 x2 : Int32) (h0 : Heap) : W.MetN l Z (⟨"java/lang/Math", "max", "(II)I"⟩ : MethodName) jdk_29_method_65_code 2 ((Option.some Jvm.ClassFile.FieldType.int)) [] ({ frames := 0, cells := 0, slots := 0, locals := 0 } : Room) #[.int x1, .int x2]  h0 (W.Pure (some (.int (own_max x1 x2))) h0) := by
  refine W.MetN.mk (ls0 := #[.val (.int x1), .val (.int x2)]) [] (Jvm.Free.JP.mathPlain rfl (by decide +kernel)) (fun m => by first | (simp [entryFrame, mkF, argsToLocals, Value.category]; done) | rfl) ?_
  intro p e s m below meth c s₁ hml hret hnm hlk P0
  show W.Go p.tables e below _ (s₁.setTop (mkF m 0 #[.val (.int x1), .val (.int x2)] []))
  refine W.g_iloadN (pc1 := 1) P0.q d1_0 rfl rfl ?_
  refine W.g_iloadN (pc1 := 2) P0.q d1_1 rfl rfl ?_
  refine W.g_cmp (pc1 := 9) (pc2 := 5) P0.q d1_2 (by decide) rfl rfl (fun (hc : x1 < x2) => ?_) (fun (hc : ¬ (x1 < x2)) => ?_)
  · refine W.g_iloadN (pc1 := 10) P0.q d1_9 rfl rfl ?_
    exact P0.retIN hlk hret d1_10 (by decide) (by decide) ⟨by rw [own_max, if_pos hc], rfl, rfl⟩
  · refine W.g_iloadN (pc1 := 6) P0.q d1_5 rfl rfl ?_
    refine W.g_goto (pc1 := 10) P0.q d1_6 (by decide) rfl ?_
    exact P0.retIN hlk hret d1_10 (by decide) (by decide) ⟨by rw [own_max, if_neg hc], rfl, rfl⟩
def QI (Z : State) (x d : Addr) (h0 : Heap) (v : Option Value) (h : Heap) (L : List Loc) : Prop := v = none ∧ W.Frw [x] h0.size L ∧ Keep h0 h [x] ∧ Exa Z h x "com/example/broker/broker/eval/RunMeasures" ∧ Fld Z h x "com/example/broker/broker/eval/RunMeasures" "values" "[D" (.ref d)
set_option maxRecDepth 65536 in
set_option maxHeartbeats 40000000 in
theorem c_init (l : Launch) (Z : State) (a0 : Array Value) (hw : ∀ d ∈ tables_1, d.before a0 Z = true) (x d : Addr) (h0 : Heap) (E0 : Exa Z h0 x "com/example/broker/broker/eval/RunMeasures") (v0 : Value) (F0 : Fld Z h0 x "com/example/broker/broker/eval/RunMeasures" "values" "[D" v0) : W.MetN l Z (⟨"com/example/broker/broker/eval/RunMeasures", "<init>", "([D)V"⟩ : MethodName) prog_38_method_1_code 2 ((Option.none : Option Jvm.ClassFile.FieldType)) [] ({ frames := 1, cells := 0, slots := 0, locals := 14 } : Room) #[.ref x, .ref d]  h0 (QI Z x d h0) := by
  refine W.MetN.mk (ls0 := #[.val (.ref x), .val (.ref d)]) [x] (plainFor_of_name pn_com_example_broker_broker_eval_RunMeasures) (fun m => by first | (simp [entryFrame, mkF, argsToLocals, Value.category]; done) | rfl) ?_
  intro p e s m below meth c s₁ hml hret hnm hlk P0
  show W.Go p.tables e below _ (s₁.setTop (mkF m 0 #[.val (.ref x), .val (.ref d)] []))
  refine W.g_aloadN (pc1 := 1) P0.q d7_0 rfl rfl rfl ?_
  refine P0.initO (pc1 := 4) (W := 0) (wd hw (k := 57) rfl) (wd hw (k := 58) rfl) (wd hw (k := 59) rfl) (by rw [hml]; rfl) (by decide) (Nat.le_of_eq rfl) (by decide) d7_1 rfl ?_
  intro T104 P104
  refine W.g_aloadN (pc1 := 5) P104.q d7_4 rfl rfl rfl ?_
  refine W.g_aloadN (pc1 := 6) P104.q d7_5 rfl rfl rfl ?_
  refine P104.putF (host := "") (pc1 := 9) (Or.inl (wd hw (k := 60) rfl)) Via.refl F0 E0 (Or.inr ⟨(wd hw (k := 61) rfl), rfl, hnm⟩) (wd hw (k := 53) rfl) (ty := (.array .double)) (by decide) rfl rfl (Or.inl (List.mem_singleton.mpr rfl)) W.safe0 d7_6 rfl ?_
  intro T105 h105 P105 W105
  exact P105.retN hlk hret d7_9 (by decide) (by decide) ⟨rfl, P105.fr, P105.keep, E0.wr W105, F0.same W105⟩
set_option maxRecDepth 65536 in
set_option maxHeartbeats 40000000 in
theorem c_value (l : Launch) (Z : State) (a0 : Array Value) (hw : ∀ d ∈ tables_1, d.before a0 Z = true) (x d y : Addr) (kd : ClassId) (vs : List Value) (j : Int32) (z : UInt64) (h0 : Heap) (F0 : Fld Z h0 x "com/example/broker/broker/eval/RunMeasures" "values" "[D" (.ref d)) (V0 : Arv Z h0 d kd .double 6 vs (.double 0)) (Ey : Exa Z h0 y "com/example/broker/broker/eval/RunMeasure") (Oy : Fld Z h0 y "java/lang/Enum" "ordinal" "I" (.int j)) (hj : ¬ j < 0) (hj2 : j.toNatClampNeg < (6 : Int32).toNatClampNeg) (hv : vs.getD j.toNatClampNeg (.double 0) = .double z) : W.MetN l Z (⟨"com/example/broker/broker/eval/RunMeasures", "value", "(Lcom/example/broker/broker/eval/RunMeasure;)D"⟩ : MethodName) prog_38_method_4_code 2 ((Option.some Jvm.ClassFile.FieldType.double)) [] ({ frames := 1, cells := 0, slots := 0, locals := 16 } : Room) #[.ref x, .ref y]  h0 (W.Pure (some (.double z)) h0) := by
  refine W.MetN.mk (ls0 := #[.val (.ref x), .val (.ref y)]) [] (plainFor_of_name pn_com_example_broker_broker_eval_RunMeasures) (fun m => by first | (simp [entryFrame, mkF, argsToLocals, Value.category]; done) | rfl) ?_
  intro p e s m below meth c s₁ hml hret hnm hlk P0
  show W.Go p.tables e below _ (s₁.setTop (mkF m 0 #[.val (.ref x), .val (.ref y)] []))
  refine W.g_aloadN (pc1 := 1) P0.q d9_0 rfl rfl rfl ?_
  refine P0.getF (host := "") (pc1 := 4) (Or.inl (wd hw (k := 60) rfl)) Via.refl F0 d9_1 rfl ?_
  intro T106 P106
  refine W.g_aloadN (pc1 := 5) P106.q d9_4 rfl rfl rfl ?_
  refine P106.callVU (pc1 := 8) (owner := "java/lang/Enum") Ey (wd hw (k := 40) rfl) (wd hw (k := 41) rfl) (wd hw (k := 42) rfl) (by decide) (wd hw (k := 44) rfl) (wd hw (k := 43) rfl) (W.MetN.pay (W := 1) (c_ord l Z a0 hw y j h0 Oy) P106 (wd hw (k := 46) rfl) (wd hw (k := 45) rfl) (by decide) (by decide)) (argsL := []) (st0 := [(.ref d)]) (lenOf pd__R_I rfl) rfl rfl (Nat.le_of_eq rfl) (by rw [hml]; rfl) (by decide) (by decide) (W.Pure.ok P106.chv) d9_5 rfl ?_
  intro v107 T107 h107 L107 q107 P107
  obtain ⟨rfl, rfl, rfl⟩ := q107
  show W.Go p.tables e below _ (T107.setTop (mkF m 8 #[.val (.ref x), .val (.ref y)] [(.int j), (.ref d)]))
  refine P107.ldD (pc1 := 9) (v := .double z) V0 hj hj2 hv d9_8 rfl ?_
  exact P107.retDN hlk hret d9_9 (by decide) (by decide) ⟨rfl, rfl, rfl⟩
def QO (Z : State) (vs : List Value) (h0 : Heap) (v : Option Value) (h : Heap) (L : List Loc) : Prop := ∃ x a k, v = some (.ref x) ∧ W.Frw [] h0.size L ∧ Ext h0 h ∧ Exa Z h x "com/example/broker/broker/eval/RunMeasures" ∧ Fld Z h x "com/example/broker/broker/eval/RunMeasures" "values" "[D" (.ref a) ∧ Arv Z h a k .double 6 vs (.double 0)
theorem own_upd {f : Nat → Int32} {i : Nat} {v : Int32} : W.upd f i v i = v := by unfold W.upd; rw [if_pos rfl]
theorem own_fN {f : Nat → Int32} {g : Nat → Bool} {i : Nat} (hf : ∀ j, j ≤ i → f j = Int32.ofNat (own_cnt g j)) (hg : g i = false) : ∀ j, j ≤ i + 1 → W.upd f (i + 1) (Int32.ofNat (own_cnt g i)) j = Int32.ofNat (own_cnt g j) := fun j hj => by
  unfold W.upd
  by_cases q : j = i + 1
  · subst q; rw [if_pos rfl, own_cntN hg]
  · rw [if_neg q]; exact hf j (by omega)
theorem own_fY {f : Nat → Int32} {g : Nat → Bool} {i : Nat} {v : Int32} (hf : ∀ j, j ≤ i → f j = Int32.ofNat (own_cnt g j)) (hg : g i = true) : ∀ j, j ≤ i + 1 → W.upd (W.upd f (i + 1) v) (i + 1) (Int32.ofNat (own_cnt g i + 1)) j = Int32.ofNat (own_cnt g j) := fun j hj => by
  unfold W.upd
  by_cases q : j = i + 1
  · subst q; rw [if_pos rfl, own_cntY hg]
  · rw [if_neg q, if_neg q]; exact hf j (by omega)
theorem own_neV {Z : State} {h : Heap} {a b : Addr} {k k' : ClassId} {C : String} {z z' : Int32} {vs vs' : List Value} {d d' : Value} (V : Arv Z h a k (.object C) z vs d) (V' : Arv Z h b k' .double z' vs' d') : a ≠ b := fun e => by
  subst e
  obtain ⟨c, A, -⟩ := V
  obtain ⟨c', A', -⟩ := V'
  cases A.1.symm.trans A'.1
  obtain ⟨-, kc, j1, comp, j2⟩ := A.2.1
  obtain ⟨-, kc', j1', comp', j2'⟩ := A'.2.1
  cases j1.symm.trans j1'
  rw [j2] at j2'; cases j2'
set_option maxRecDepth 65536 in
set_option maxHeartbeats 40000000 in
theorem c_of (l : Launch) (Z : State) (a0 : Array Value) (hw : ∀ d ∈ tables_1, d.before a0 Z = true) (r : Addr) (kr : ClassId) (n : Nat) (hn : n ≤ 15) (g : Nat → Bool) (hg : ∀ j, n ≤ j → g j = false) (rel : Int32) (hrel : ¬ rel < Int32.ofNat (own_cnt g n)) (hnn : ¬ rel = 0 → Jvm.Free.Fl.NoNaN64 (FP.ddiv (own_acc g n) (FP.i2d rel))) (va p0 p1 p2 p3 p4 p5 : Addr) (kv : ClassId) (h0 : Heap) (S : En Z h0 va p0 p1 p2 p3 p4 p5 kv) (A0 : W.Arg Z h0 r kr .boolean n (fun j => b01 (g j))) : W.MetN l Z (⟨"com/example/broker/broker/eval/RunMeasures", "of", "([ZI)Lcom/example/broker/broker/eval/RunMeasures;"⟩ : MethodName) prog_38_method_2_code 14 ((Option.some (Jvm.ClassFile.FieldType.object "com/example/broker/broker/eval/RunMeasures"))) [] ({ frames := 3, cells := 5, slots := 40, locals := 60 } : Room) #[.ref r, .int rel]  h0 (QO Z [.double (own_map g n rel), .double (FP.ddiv (FP.i2d (Int32.ofNat (own_cnt g 5))) 4617315517961601024), .double (FP.ddiv (FP.i2d (Int32.ofNat (own_cnt g 10))) 4621819117588971520), .double (FP.ddiv (FP.i2d (Int32.ofNat (own_cnt g 15))) 4624633867356078080), .double (FP.ddiv (FP.i2d (Int32.ofNat (own_cnt g 20))) 4626322717216342016), .double (FP.ddiv (FP.i2d (Int32.ofNat (own_cnt g 30))) 4629137466983448576)] h0) := by
  refine W.MetN.mk (ls0 := #[.val (.ref r), .val (.int rel), .unset, .unset, .unset, .unset, .unset, .unset, .unset, .unset, .unset, .unset, .unset, .unset]) [] (plainFor_of_name pn_com_example_broker_broker_eval_RunMeasures) (fun m => by first | (simp [entryFrame, mkF, argsToLocals, Value.category]; done) | rfl) ?_
  intro p e s m below meth c s₁ hml hret hnm hlk P0
  show W.Go p.tables e below _ (s₁.setTop (mkF m 0 #[.val (.ref r), .val (.int rel), .unset, .unset, .unset, .unset, .unset, .unset, .unset, .unset, .unset, .unset, .unset, .unset] []))
  refine W.g_aloadN (pc1 := 1) P0.q d2_0 rfl rfl rfl ?_
  refine P0.lenG (pc1 := 2) A0 d2_1 rfl ?_
  refine W.g_istoreN (pc1 := 3) (ls2 := #[.val (.ref r), .val (.int rel), .val (.int (Int32.ofNat n)), .unset, .unset, .unset, .unset, .unset, .unset, .unset, .unset, .unset, .unset, .unset]) P0.q d2_2 rfl rfl ?_
  refine W.g_iloadN (pc1 := 4) P0.q d2_3 rfl rfl ?_
  refine W.g_iconst (pc1 := 5) (v := (1 : Int32)) P0.q d2_4 (by decide) rfl ?_
  refine W.g_iadd (pc1 := 6) P0.q d2_5 rfl ?_
  rw [own_s1]
  refine P0.newP (pc1 := 8) (cap := 16) (wd hw (k := 9) rfl) (W.nn32 (by omega)) (by rw [W.n32 (by omega)]; omega) (by decide) (by decide) (by decide) d2_6 rfl ?_
  intro T108 h108 x108 k108 g108 P108 E108 V108
  have H0 : W.Arg Z h108 x108 k108 .int (n + 1) (fun _ => 0) := W.Arg.new (by omega) V108
  refine W.g_astoreN (pc1 := 9) (ls2 := #[.val (.ref r), .val (.int rel), .val (.int (Int32.ofNat n)), .val (.ref x108), .unset, .unset, .unset, .unset, .unset, .unset, .unset, .unset, .unset, .unset]) P108.q d2_8 rfl rfl rfl ?_
  refine W.g_dconst0 (pc1 := 10) P108.q d2_9 rfl ?_
  refine W.g_dstore (pc1 := 12) (ls2 := #[.val (.ref r), .val (.int rel), .val (.int (Int32.ofNat n)), .val (.ref x108), .val (.double (0 : UInt64)), .second, .unset, .unset, .unset, .unset, .unset, .unset, .unset, .unset]) P108.q d2_10 rfl rfl ?_
  refine W.g_iconst (pc1 := 13) (v := (1 : Int32)) P108.q d2_12 (by decide) rfl ?_
  refine W.g_istore (pc1 := 15) (ls2 := #[.val (.ref r), .val (.int rel), .val (.int (Int32.ofNat n)), .val (.ref x108), .val (.double (0 : UInt64)), .second, .val (.int (1 : Int32)), .unset, .unset, .unset, .unset, .unset, .unset, .unset]) P108.q d2_13 rfl rfl ?_
  have done : ∀ (T1 : State) (L1 : List Loc) (h1 : Heap) (f : Nat → Int32), W.Pos p l e ({ frames := 3, cells := 5, slots := 40, locals := 60 } : Room) s m #[.ref r, .int rel] below meth c prog_38_method_2_code Z [] [] h0 "com/example/broker/broker/eval/RunMeasures" s.vm T1 L1 1 16 h1 → (∀ j, j ≤ n → f j = Int32.ofNat (own_cnt g j)) → W.Arg Z h1 x108 k108 .int (n + 1) f → W.Go p.tables e below (W.GN s (QO Z [.double (own_map g n rel), .double (FP.ddiv (FP.i2d (Int32.ofNat (own_cnt g 5))) 4617315517961601024), .double (FP.ddiv (FP.i2d (Int32.ofNat (own_cnt g 10))) 4621819117588971520), .double (FP.ddiv (FP.i2d (Int32.ofNat (own_cnt g 15))) 4624633867356078080), .double (FP.ddiv (FP.i2d (Int32.ofNat (own_cnt g 20))) 4626322717216342016), .double (FP.ddiv (FP.i2d (Int32.ofNat (own_cnt g 30))) 4629137466983448576)] h0) ({ frames := 3, cells := 5, slots := 40, locals := 60 } : Room)) (T1.setTop (mkF m 68 #[.val (.ref r), .val (.int rel), .val (.int (Int32.ofNat n)), .val (.ref x108), .val (.double (own_acc g n)), .second, .val (.int (Int32.ofNat (n + 1))), .unset, .unset, .unset, .unset, .unset, .unset, .unset] [])) := by
    intro T1 L1 h1 f P1 hf H1
    refine W.g_aloadN (pc1 := 69) P1.q d2_68 rfl rfl rfl ?_
    refine W.g_iloadN (pc1 := 70) P1.q d2_69 rfl rfl ?_
    refine P1.ldIg (pc1 := 71) (i := n) H1 (by omega) d2_70 rfl ?_
    rw [hf n (Nat.le_refl n)]
    refine W.g_iloadN (pc1 := 72) P1.q d2_71 rfl rfl ?_
    refine W.g_cmpY (pc1 := 92) P1.q d2_72 (by decide) rfl hrel ?_
    refine P1.callS (pc1 := 95) (wd hw (k := 10) rfl) (wd hw (k := 11) rfl) (wd hw (k := 12) rfl) (wd hw (k := 13) rfl) (by decide) (W.MetN.pay (W := 0) (c_values l Z a0 hw va p0 p1 p2 p3 p4 p5 kv h1 (S.ext P1.ext0)) P1 (wd hw (k := 13) rfl) (wd hw (k := 12) rfl) (by decide) (by decide)) (argsL := []) (st0 := []) (lenOf pd__R_ALcom_example_broker_broker_eval_RunMeasure rfl) rfl rfl (Nat.le_of_eq rfl) (by rw [hml]; rfl) (by decide) (by decide) (fun _ _ _ q => by obtain ⟨_, _, _, q2, q3, _⟩ := q; exact ⟨q2.up P1.sz all0, CHr.ext q3 P1.chv⟩) d2_92 rfl ?_
    intro v109 T109 h109 L109 q109 P109
    obtain ⟨a109, k109, rfl, f109, E109, V109⟩ := q109
    show W.Go p.tables e below _ (T109.setTop (mkF m 95 #[.val (.ref r), .val (.int rel), .val (.int (Int32.ofNat n)), .val (.ref x108), .val (.double (own_acc g n)), .second, .val (.int (Int32.ofNat (n + 1))), .unset, .unset, .unset, .unset, .unset, .unset, .unset] [(.ref a109)]))
    have H2 := H1.ext E109
    refine P109.len (pc1 := 96) V109 d2_95 rfl ?_
    refine P109.newP (pc1 := 98) (cap := 6) (wd hw (k := 32) rfl) (by decide) (by decide) (by decide) (by decide) (by decide) d2_96 rfl ?_
    intro T110 h110 x110 k110 g110 P110 E110 V110
    have H3 := H2.ext E110
    have hdn : h0.size ≤ x110 := by rw [g110]; exact P109.sz
    have hhd : x108 ≠ x110 := Nat.ne_of_lt (by rw [g110]; exact H2.lt)
    refine W.g_astore (pc1 := 100) (ls2 := #[.val (.ref r), .val (.int rel), .val (.int (Int32.ofNat n)), .val (.ref x108), .val (.double (own_acc g n)), .second, .val (.ref x110), .unset, .unset, .unset, .unset, .unset, .unset, .unset]) P110.q d2_98 rfl rfl rfl ?_
    refine P110.callS (pc1 := 103) (wd hw (k := 10) rfl) (wd hw (k := 11) rfl) (wd hw (k := 12) rfl) (wd hw (k := 13) rfl) (by decide) (W.MetN.pay (W := 0) (c_values l Z a0 hw va p0 p1 p2 p3 p4 p5 kv h110 (S.ext P110.ext0)) P110 (wd hw (k := 13) rfl) (wd hw (k := 12) rfl) (by decide) (by decide)) (argsL := []) (st0 := []) (lenOf pd__R_ALcom_example_broker_broker_eval_RunMeasure rfl) rfl rfl (Nat.le_of_eq rfl) (by rw [hml]; rfl) (by decide) (by decide) (fun _ _ _ q => by obtain ⟨_, _, _, q2, q3, _⟩ := q; exact ⟨q2.up P110.sz all0, CHr.ext q3 P110.chv⟩) d2_100 rfl ?_
    intro v111 T111 h111 L111 q111 P111
    obtain ⟨a111, k111, rfl, f111, E111, V111⟩ := q111
    show W.Go p.tables e below _ (T111.setTop (mkF m 103 #[.val (.ref r), .val (.int rel), .val (.int (Int32.ofNat n)), .val (.ref x108), .val (.double (own_acc g n)), .second, .val (.ref x110), .unset, .unset, .unset, .unset, .unset, .unset, .unset] [(.ref a111)]))
    have H4 := H3.ext E111
    have V4 := V110.ext E111
    refine W.g_astore (pc1 := 105) (ls2 := #[.val (.ref r), .val (.int rel), .val (.int (Int32.ofNat n)), .val (.ref x108), .val (.double (own_acc g n)), .second, .val (.ref x110), .val (.ref a111), .unset, .unset, .unset, .unset, .unset, .unset]) P111.q d2_103 rfl rfl rfl ?_
    refine W.g_aload (pc1 := 107) P111.q d2_105 rfl rfl rfl ?_
    refine P111.len (pc1 := 108) V111 d2_107 rfl ?_
    refine W.g_istore (pc1 := 110) (ls2 := #[.val (.ref r), .val (.int rel), .val (.int (Int32.ofNat n)), .val (.ref x108), .val (.double (own_acc g n)), .second, .val (.ref x110), .val (.ref a111), .val (.int (6 : Int32)), .unset, .unset, .unset, .unset, .unset]) P111.q d2_108 rfl rfl ?_
    refine W.g_iconst (pc1 := 111) (v := (0 : Int32)) P111.q d2_110 (by decide) rfl ?_
    refine W.g_istore (pc1 := 113) (ls2 := #[.val (.ref r), .val (.int rel), .val (.int (Int32.ofNat n)), .val (.ref x108), .val (.double (own_acc g n)), .second, .val (.ref x110), .val (.ref a111), .val (.int (6 : Int32)), .val (.int (0 : Int32)), .unset, .unset, .unset, .unset]) P111.q d2_111 rfl rfl ?_
    refine W.g_iload (pc1 := 115) P111.q d2_113 rfl rfl ?_
    refine W.g_iload (pc1 := 117) P111.q d2_115 rfl rfl ?_
    refine W.g_cmpN (pc2 := 120) P111.q d2_117 rfl (by decide) ?_
    refine W.g_aload (pc1 := 122) P111.q d2_120 rfl rfl rfl ?_
    refine W.g_iload (pc1 := 124) P111.q d2_122 rfl rfl ?_
    have hvd : a111 ≠ x110 := own_neV V111 V4
    refine P111.ldR (pc1 := 125) (v := .ref p0) V111 rfl (by decide) (by decide) rfl d2_124 rfl ?_
    refine W.g_astore (pc1 := 127) (ls2 := #[.val (.ref r), .val (.int rel), .val (.int (Int32.ofNat n)), .val (.ref x108), .val (.double (own_acc g n)), .second, .val (.ref x110), .val (.ref a111), .val (.int (6 : Int32)), .val (.int (0 : Int32)), .val (.ref p0), .unset, .unset, .unset]) P111.q d2_125 rfl rfl rfl ?_
    refine W.g_aload (pc1 := 129) P111.q d2_127 rfl rfl rfl ?_
    refine P111.callV (pc1 := 132) (S.2.2.2.2.2.2.2.2.2.1.ext P111.ext0) (wd hw (k := 33) rfl) (wd hw (k := 34) rfl) (wd hw (k := 36) rfl) (wd hw (k := 35) rfl) (notFace_of_selects (args := #[]) (mvT P111.hz (wd hw (k := 36) rfl))) (by decide) (W.MetN.pay (W := 0) (c_cut l Z a0 hw p0 0 h111 (S.2.2.2.2.2.2.2.2.2.2.2.2.2.2.2.1.ext P111.ext0)) P111 (wd hw (k := 37) rfl) (wd hw (k := 12) rfl) (by decide) (by decide)) (argsL := []) (st0 := []) (lenOf pd__R_I rfl) rfl rfl (Nat.le_of_eq rfl) (by rw [hml]; rfl) (by decide) (by decide) (W.Pure.ok P111.chv) d2_129 rfl ?_
    intro v112 T112 h112 L112 q112 P112
    obtain ⟨rfl, rfl, rfl⟩ := q112
    show W.Go p.tables e below _ (T112.setTop (mkF m 132 #[.val (.ref r), .val (.int rel), .val (.int (Int32.ofNat n)), .val (.ref x108), .val (.double (own_acc g n)), .second, .val (.ref x110), .val (.ref a111), .val (.int (6 : Int32)), .val (.int (0 : Int32)), .val (.ref p0), .unset, .unset, .unset] [(.int (0 : Int32))]))
    refine W.g_istore (pc1 := 134) (ls2 := #[.val (.ref r), .val (.int rel), .val (.int (Int32.ofNat n)), .val (.ref x108), .val (.double (own_acc g n)), .second, .val (.ref x110), .val (.ref a111), .val (.int (6 : Int32)), .val (.int (0 : Int32)), .val (.ref p0), .val (.int (0 : Int32)), .unset, .unset]) P112.q d2_132 rfl rfl ?_
    refine W.g_iload (pc1 := 136) P112.q d2_134 rfl rfl ?_
    refine W.g_ifN (pc2 := 139) P112.q d2_136 rfl (by decide) ?_
    refine W.g_iloadN (pc1 := 140) P112.q d2_139 rfl rfl ?_
    have JM : ∀ (zm : UInt64), zm = own_map g n rel → W.Go p.tables e below (W.GN s (QO Z [.double (own_map g n rel), .double (FP.ddiv (FP.i2d (Int32.ofNat (own_cnt g 5))) 4617315517961601024), .double (FP.ddiv (FP.i2d (Int32.ofNat (own_cnt g 10))) 4621819117588971520), .double (FP.ddiv (FP.i2d (Int32.ofNat (own_cnt g 15))) 4624633867356078080), .double (FP.ddiv (FP.i2d (Int32.ofNat (own_cnt g 20))) 4626322717216342016), .double (FP.ddiv (FP.i2d (Int32.ofNat (own_cnt g 30))) 4629137466983448576)] h0) ({ frames := 3, cells := 5, slots := 40, locals := 60 } : Room)) (T112.setTop (mkF m 152 #[.val (.ref r), .val (.int rel), .val (.int (Int32.ofNat n)), .val (.ref x108), .val (.double (own_acc g n)), .second, .val (.ref x110), .val (.ref a111), .val (.int (6 : Int32)), .val (.int (0 : Int32)), .val (.ref p0), .val (.int (0 : Int32)), .unset, .unset] [.double zm])) := by
      intro zm hzm
      refine W.g_dstore (pc1 := 154) (ls2 := #[.val (.ref r), .val (.int rel), .val (.int (Int32.ofNat n)), .val (.ref x108), .val (.double (own_acc g n)), .second, .val (.ref x110), .val (.ref a111), .val (.int (6 : Int32)), .val (.int (0 : Int32)), .val (.ref p0), .val (.int (0 : Int32)), .val (.double zm), .second]) P112.q d2_152 rfl rfl ?_
      refine W.g_goto (pc1 := 172) P112.q d2_154 (by decide) rfl ?_
      refine W.g_aload (pc1 := 174) P112.q d2_172 rfl rfl rfl ?_
      refine W.g_aload (pc1 := 176) P112.q d2_174 rfl rfl rfl ?_
      refine P112.callVU (pc1 := 179) (owner := "java/lang/Enum") (S.2.2.2.2.2.2.2.2.2.1.ext P112.ext0) (wd hw (k := 40) rfl) (wd hw (k := 41) rfl) (wd hw (k := 42) rfl) (by decide) (wd hw (k := 44) rfl) (wd hw (k := 43) rfl) (W.MetN.pay (W := 1) (c_ord l Z a0 hw p0 (0 : Int32) h111 (S.2.2.2.2.2.2.2.2.2.2.2.2.2.2.2.2.2.2.2.2.2.1.ext P112.ext0)) P112 (wd hw (k := 46) rfl) (wd hw (k := 45) rfl) (by decide) (by decide)) (argsL := []) (st0 := [(.ref x110)]) (lenOf pd__R_I rfl) rfl rfl (Nat.le_of_eq rfl) (by rw [hml]; rfl) (by decide) (by decide) (W.Pure.ok P112.chv) d2_176 rfl ?_
      intro v113 T113 h113 L113 q113 P113
      obtain ⟨rfl, rfl, rfl⟩ := q113
      show W.Go p.tables e below _ (T113.setTop (mkF m 179 #[.val (.ref r), .val (.int rel), .val (.int (Int32.ofNat n)), .val (.ref x108), .val (.double (own_acc g n)), .second, .val (.ref x110), .val (.ref a111), .val (.int (6 : Int32)), .val (.int (0 : Int32)), .val (.ref p0), .val (.int (0 : Int32)), .val (.double zm), .second] [(.int (0 : Int32)), (.ref x110)]))
      refine W.g_dload (pc1 := 181) P113.q d2_179 rfl rfl ?_
      refine P113.stD (pc1 := 182) (i := 0) V4 (by decide) (by decide) (Nat.le_of_ble_eq_true rfl) rfl (Or.inr hdn) W.safe0 d2_181 rfl ?_
      intro T114 h114 P114 W114 V114
      have VA114 := V111.other W114 (by exact hvd)
      have HH114 := H4.other W114 hhd
      refine W.g_iinc (pc1 := 185) (ls2 := #[.val (.ref r), .val (.int rel), .val (.int (Int32.ofNat n)), .val (.ref x108), .val (.double (own_acc g n)), .second, .val (.ref x110), .val (.ref a111), .val (.int (6 : Int32)), .val (.int ((0 : Int32) + Int32.ofInt 1)), .val (.ref p0), .val (.int (0 : Int32)), .val (.double zm), .second]) P114.q d2_182 rfl rfl rfl ?_
      show W.Go p.tables e below _ (T114.setTop (mkF m 185 #[.val (.ref r), .val (.int rel), .val (.int (Int32.ofNat n)), .val (.ref x108), .val (.double (own_acc g n)), .second, .val (.ref x110), .val (.ref a111), .val (.int (6 : Int32)), .val (.int (1 : Int32)), .val (.ref p0), .val (.int (0 : Int32)), .val (.double zm), .second] []))
      refine W.g_goto (pc1 := 113) P114.q d2_185 (by decide) rfl ?_
      refine W.g_iload (pc1 := 115) P114.q d2_113 rfl rfl ?_
      refine W.g_iload (pc1 := 117) P114.q d2_115 rfl rfl ?_
      refine W.g_cmpN (pc2 := 120) P114.q d2_117 rfl (by decide) ?_
      refine W.g_aload (pc1 := 122) P114.q d2_120 rfl rfl rfl ?_
      refine W.g_iload (pc1 := 124) P114.q d2_122 rfl rfl ?_
      refine P114.ldR (pc1 := 125) (v := .ref p1) VA114 rfl (by decide) (by decide) rfl d2_124 rfl ?_
      refine W.g_astore (pc1 := 127) (ls2 := #[.val (.ref r), .val (.int rel), .val (.int (Int32.ofNat n)), .val (.ref x108), .val (.double (own_acc g n)), .second, .val (.ref x110), .val (.ref a111), .val (.int (6 : Int32)), .val (.int (1 : Int32)), .val (.ref p1), .val (.int (0 : Int32)), .val (.double zm), .second]) P114.q d2_125 rfl rfl rfl ?_
      refine W.g_aload (pc1 := 129) P114.q d2_127 rfl rfl rfl ?_
      refine P114.callV (pc1 := 132) (S.2.2.2.2.2.2.2.2.2.2.1.ext P114.ext0) (wd hw (k := 33) rfl) (wd hw (k := 34) rfl) (wd hw (k := 36) rfl) (wd hw (k := 35) rfl) (notFace_of_selects (args := #[]) (mvT P114.hz (wd hw (k := 36) rfl))) (by decide) (W.MetN.pay (W := 0) (c_cut l Z a0 hw p1 5 h114 (S.2.2.2.2.2.2.2.2.2.2.2.2.2.2.2.2.1.ext P114.ext0)) P114 (wd hw (k := 37) rfl) (wd hw (k := 12) rfl) (by decide) (by decide)) (argsL := []) (st0 := []) (lenOf pd__R_I rfl) rfl rfl (Nat.le_of_eq rfl) (by rw [hml]; rfl) (by decide) (by decide) (W.Pure.ok P114.chv) d2_129 rfl ?_
      intro v115 T115 h115 L115 q115 P115
      obtain ⟨rfl, rfl, rfl⟩ := q115
      show W.Go p.tables e below _ (T115.setTop (mkF m 132 #[.val (.ref r), .val (.int rel), .val (.int (Int32.ofNat n)), .val (.ref x108), .val (.double (own_acc g n)), .second, .val (.ref x110), .val (.ref a111), .val (.int (6 : Int32)), .val (.int (1 : Int32)), .val (.ref p1), .val (.int (0 : Int32)), .val (.double zm), .second] [(.int (5 : Int32))]))
      refine W.g_istore (pc1 := 134) (ls2 := #[.val (.ref r), .val (.int rel), .val (.int (Int32.ofNat n)), .val (.ref x108), .val (.double (own_acc g n)), .second, .val (.ref x110), .val (.ref a111), .val (.int (6 : Int32)), .val (.int (1 : Int32)), .val (.ref p1), .val (.int (5 : Int32)), .val (.double zm), .second]) P115.q d2_132 rfl rfl ?_
      refine W.g_iload (pc1 := 136) P115.q d2_134 rfl rfl ?_
      refine W.g_ifY (pc1 := 157) P115.q d2_136 (by decide) rfl (by decide) ?_
      refine W.g_aloadN (pc1 := 158) P115.q d2_157 rfl rfl rfl ?_
      refine W.g_iload (pc1 := 160) P115.q d2_158 rfl rfl ?_
      refine W.g_iloadN (pc1 := 161) P115.q d2_160 rfl rfl ?_
      show W.Go p.tables e below _ (T115.setTop (mkF m 161 #[.val (.ref r), .val (.int rel), .val (.int (Int32.ofNat n)), .val (.ref x108), .val (.double (own_acc g n)), .second, .val (.ref x110), .val (.ref a111), .val (.int (6 : Int32)), .val (.int (1 : Int32)), .val (.ref p1), .val (.int (5 : Int32)), .val (.double zm), .second] [(.int (Int32.ofNat n)), (.int (Int32.ofNat 5)), (.ref x108)]))
      refine P115.callS (pc1 := 164) (wd hw (k := 49) rfl) (wd hw (k := 50) rfl) (wd hw (k := 3) rfl) (wd hw (k := 51) rfl) (by decide) (W.MetN.pay (W := 1) (c_min l Z a0 hw 5 n (by decide) (by omega) h114) P115 (wd hw (k := 51) rfl) (wd hw (k := 3) rfl) (by decide) (by decide)) (argsL := [(.int (Int32.ofNat 5)), (.int (Int32.ofNat n))]) (st0 := [(.ref x108)]) (lenOf pd_II_R_I rfl) rfl rfl (Nat.le_of_eq rfl) (by rw [hml]; rfl) (by decide) (by decide) (W.Pure.ok P115.chv) d2_161 rfl ?_
      intro v116 T116 h116 L116 q116 P116
      obtain ⟨rfl, rfl, rfl⟩ := q116
      show W.Go p.tables e below _ (T116.setTop (mkF m 164 #[.val (.ref r), .val (.int rel), .val (.int (Int32.ofNat n)), .val (.ref x108), .val (.double (own_acc g n)), .second, .val (.ref x110), .val (.ref a111), .val (.int (6 : Int32)), .val (.int (1 : Int32)), .val (.ref p1), .val (.int (5 : Int32)), .val (.double zm), .second] [(.int (Int32.ofNat (min 5 n))), (.ref x108)]))
      refine P116.ldIg (pc1 := 165) (i := (min 5 n)) HH114 (by omega) d2_164 rfl ?_
      rw [hf (min 5 n) (Nat.min_le_right _ _), own_cnt_min hg]
      show W.Go p.tables e below _ (T116.setTop (mkF m 165 #[.val (.ref r), .val (.int rel), .val (.int (Int32.ofNat n)), .val (.ref x108), .val (.double (own_acc g n)), .second, .val (.ref x110), .val (.ref a111), .val (.int (6 : Int32)), .val (.int (1 : Int32)), .val (.ref p1), .val (.int (5 : Int32)), .val (.double zm), .second] [(.int (Int32.ofNat (own_cnt g 5)))]))
      refine W.g_i2d (pc1 := 166) P116.q d2_165 rfl ?_
      refine W.g_iload (pc1 := 168) P116.q d2_166 rfl rfl ?_
      refine W.g_i2d (pc1 := 169) P116.q d2_168 rfl ?_
      rw [own_k5]
      show W.Go p.tables e below _ (T116.setTop (mkF m 169 #[.val (.ref r), .val (.int rel), .val (.int (Int32.ofNat n)), .val (.ref x108), .val (.double (own_acc g n)), .second, .val (.ref x110), .val (.ref a111), .val (.int (6 : Int32)), .val (.int (1 : Int32)), .val (.ref p1), .val (.int (5 : Int32)), .val (.double zm), .second] [(.double (4617315517961601024 : UInt64)), (.double (FP.i2d (Int32.ofNat (own_cnt g 5))))]))
      refine W.g_ddiv (pc1 := 170) P116.q d2_169 (own_nanC (by have := own_cnt_le g 5; omega) (by decide) own_z5 (by have := own_cnt_le g 5; omega)) rfl ?_
      refine W.g_dstore (pc1 := 172) (ls2 := #[.val (.ref r), .val (.int rel), .val (.int (Int32.ofNat n)), .val (.ref x108), .val (.double (own_acc g n)), .second, .val (.ref x110), .val (.ref a111), .val (.int (6 : Int32)), .val (.int (1 : Int32)), .val (.ref p1), .val (.int (5 : Int32)), .val (.double (FP.ddiv (FP.i2d (Int32.ofNat (own_cnt g 5))) 4617315517961601024)), .second]) P116.q d2_170 rfl rfl ?_
      refine W.g_aload (pc1 := 174) P116.q d2_172 rfl rfl rfl ?_
      refine W.g_aload (pc1 := 176) P116.q d2_174 rfl rfl rfl ?_
      refine P116.callVU (pc1 := 179) (owner := "java/lang/Enum") (S.2.2.2.2.2.2.2.2.2.2.1.ext P116.ext0) (wd hw (k := 40) rfl) (wd hw (k := 41) rfl) (wd hw (k := 42) rfl) (by decide) (wd hw (k := 44) rfl) (wd hw (k := 43) rfl) (W.MetN.pay (W := 1) (c_ord l Z a0 hw p1 (1 : Int32) h114 (S.2.2.2.2.2.2.2.2.2.2.2.2.2.2.2.2.2.2.2.2.2.2.1.ext P116.ext0)) P116 (wd hw (k := 46) rfl) (wd hw (k := 45) rfl) (by decide) (by decide)) (argsL := []) (st0 := [(.ref x110)]) (lenOf pd__R_I rfl) rfl rfl (Nat.le_of_eq rfl) (by rw [hml]; rfl) (by decide) (by decide) (W.Pure.ok P116.chv) d2_176 rfl ?_
      intro v117 T117 h117 L117 q117 P117
      obtain ⟨rfl, rfl, rfl⟩ := q117
      show W.Go p.tables e below _ (T117.setTop (mkF m 179 #[.val (.ref r), .val (.int rel), .val (.int (Int32.ofNat n)), .val (.ref x108), .val (.double (own_acc g n)), .second, .val (.ref x110), .val (.ref a111), .val (.int (6 : Int32)), .val (.int (1 : Int32)), .val (.ref p1), .val (.int (5 : Int32)), .val (.double (FP.ddiv (FP.i2d (Int32.ofNat (own_cnt g 5))) 4617315517961601024)), .second] [(.int (1 : Int32)), (.ref x110)]))
      refine W.g_dload (pc1 := 181) P117.q d2_179 rfl rfl ?_
      refine P117.stD (pc1 := 182) (i := 1) V114 (by decide) (by decide) (Nat.le_of_ble_eq_true rfl) rfl (Or.inr hdn) W.safe0 d2_181 rfl ?_
      intro T118 h118 P118 W118 V118
      have VA118 := VA114.other W118 (by exact hvd)
      have HH118 := HH114.other W118 hhd
      refine W.g_iinc (pc1 := 185) (ls2 := #[.val (.ref r), .val (.int rel), .val (.int (Int32.ofNat n)), .val (.ref x108), .val (.double (own_acc g n)), .second, .val (.ref x110), .val (.ref a111), .val (.int (6 : Int32)), .val (.int ((1 : Int32) + Int32.ofInt 1)), .val (.ref p1), .val (.int (5 : Int32)), .val (.double (FP.ddiv (FP.i2d (Int32.ofNat (own_cnt g 5))) 4617315517961601024)), .second]) P118.q d2_182 rfl rfl rfl ?_
      show W.Go p.tables e below _ (T118.setTop (mkF m 185 #[.val (.ref r), .val (.int rel), .val (.int (Int32.ofNat n)), .val (.ref x108), .val (.double (own_acc g n)), .second, .val (.ref x110), .val (.ref a111), .val (.int (6 : Int32)), .val (.int (2 : Int32)), .val (.ref p1), .val (.int (5 : Int32)), .val (.double (FP.ddiv (FP.i2d (Int32.ofNat (own_cnt g 5))) 4617315517961601024)), .second] []))
      refine W.g_goto (pc1 := 113) P118.q d2_185 (by decide) rfl ?_
      refine W.g_iload (pc1 := 115) P118.q d2_113 rfl rfl ?_
      refine W.g_iload (pc1 := 117) P118.q d2_115 rfl rfl ?_
      refine W.g_cmpN (pc2 := 120) P118.q d2_117 rfl (by decide) ?_
      refine W.g_aload (pc1 := 122) P118.q d2_120 rfl rfl rfl ?_
      refine W.g_iload (pc1 := 124) P118.q d2_122 rfl rfl ?_
      refine P118.ldR (pc1 := 125) (v := .ref p2) VA118 rfl (by decide) (by decide) rfl d2_124 rfl ?_
      refine W.g_astore (pc1 := 127) (ls2 := #[.val (.ref r), .val (.int rel), .val (.int (Int32.ofNat n)), .val (.ref x108), .val (.double (own_acc g n)), .second, .val (.ref x110), .val (.ref a111), .val (.int (6 : Int32)), .val (.int (2 : Int32)), .val (.ref p2), .val (.int (5 : Int32)), .val (.double (FP.ddiv (FP.i2d (Int32.ofNat (own_cnt g 5))) 4617315517961601024)), .second]) P118.q d2_125 rfl rfl rfl ?_
      refine W.g_aload (pc1 := 129) P118.q d2_127 rfl rfl rfl ?_
      refine P118.callV (pc1 := 132) (S.2.2.2.2.2.2.2.2.2.2.2.1.ext P118.ext0) (wd hw (k := 33) rfl) (wd hw (k := 34) rfl) (wd hw (k := 36) rfl) (wd hw (k := 35) rfl) (notFace_of_selects (args := #[]) (mvT P118.hz (wd hw (k := 36) rfl))) (by decide) (W.MetN.pay (W := 0) (c_cut l Z a0 hw p2 10 h118 (S.2.2.2.2.2.2.2.2.2.2.2.2.2.2.2.2.2.1.ext P118.ext0)) P118 (wd hw (k := 37) rfl) (wd hw (k := 12) rfl) (by decide) (by decide)) (argsL := []) (st0 := []) (lenOf pd__R_I rfl) rfl rfl (Nat.le_of_eq rfl) (by rw [hml]; rfl) (by decide) (by decide) (W.Pure.ok P118.chv) d2_129 rfl ?_
      intro v119 T119 h119 L119 q119 P119
      obtain ⟨rfl, rfl, rfl⟩ := q119
      show W.Go p.tables e below _ (T119.setTop (mkF m 132 #[.val (.ref r), .val (.int rel), .val (.int (Int32.ofNat n)), .val (.ref x108), .val (.double (own_acc g n)), .second, .val (.ref x110), .val (.ref a111), .val (.int (6 : Int32)), .val (.int (2 : Int32)), .val (.ref p2), .val (.int (5 : Int32)), .val (.double (FP.ddiv (FP.i2d (Int32.ofNat (own_cnt g 5))) 4617315517961601024)), .second] [(.int (10 : Int32))]))
      refine W.g_istore (pc1 := 134) (ls2 := #[.val (.ref r), .val (.int rel), .val (.int (Int32.ofNat n)), .val (.ref x108), .val (.double (own_acc g n)), .second, .val (.ref x110), .val (.ref a111), .val (.int (6 : Int32)), .val (.int (2 : Int32)), .val (.ref p2), .val (.int (10 : Int32)), .val (.double (FP.ddiv (FP.i2d (Int32.ofNat (own_cnt g 5))) 4617315517961601024)), .second]) P119.q d2_132 rfl rfl ?_
      refine W.g_iload (pc1 := 136) P119.q d2_134 rfl rfl ?_
      refine W.g_ifY (pc1 := 157) P119.q d2_136 (by decide) rfl (by decide) ?_
      refine W.g_aloadN (pc1 := 158) P119.q d2_157 rfl rfl rfl ?_
      refine W.g_iload (pc1 := 160) P119.q d2_158 rfl rfl ?_
      refine W.g_iloadN (pc1 := 161) P119.q d2_160 rfl rfl ?_
      show W.Go p.tables e below _ (T119.setTop (mkF m 161 #[.val (.ref r), .val (.int rel), .val (.int (Int32.ofNat n)), .val (.ref x108), .val (.double (own_acc g n)), .second, .val (.ref x110), .val (.ref a111), .val (.int (6 : Int32)), .val (.int (2 : Int32)), .val (.ref p2), .val (.int (10 : Int32)), .val (.double (FP.ddiv (FP.i2d (Int32.ofNat (own_cnt g 5))) 4617315517961601024)), .second] [(.int (Int32.ofNat n)), (.int (Int32.ofNat 10)), (.ref x108)]))
      refine P119.callS (pc1 := 164) (wd hw (k := 49) rfl) (wd hw (k := 50) rfl) (wd hw (k := 3) rfl) (wd hw (k := 51) rfl) (by decide) (W.MetN.pay (W := 1) (c_min l Z a0 hw 10 n (by decide) (by omega) h118) P119 (wd hw (k := 51) rfl) (wd hw (k := 3) rfl) (by decide) (by decide)) (argsL := [(.int (Int32.ofNat 10)), (.int (Int32.ofNat n))]) (st0 := [(.ref x108)]) (lenOf pd_II_R_I rfl) rfl rfl (Nat.le_of_eq rfl) (by rw [hml]; rfl) (by decide) (by decide) (W.Pure.ok P119.chv) d2_161 rfl ?_
      intro v120 T120 h120 L120 q120 P120
      obtain ⟨rfl, rfl, rfl⟩ := q120
      show W.Go p.tables e below _ (T120.setTop (mkF m 164 #[.val (.ref r), .val (.int rel), .val (.int (Int32.ofNat n)), .val (.ref x108), .val (.double (own_acc g n)), .second, .val (.ref x110), .val (.ref a111), .val (.int (6 : Int32)), .val (.int (2 : Int32)), .val (.ref p2), .val (.int (10 : Int32)), .val (.double (FP.ddiv (FP.i2d (Int32.ofNat (own_cnt g 5))) 4617315517961601024)), .second] [(.int (Int32.ofNat (min 10 n))), (.ref x108)]))
      refine P120.ldIg (pc1 := 165) (i := (min 10 n)) HH118 (by omega) d2_164 rfl ?_
      rw [hf (min 10 n) (Nat.min_le_right _ _), own_cnt_min hg]
      show W.Go p.tables e below _ (T120.setTop (mkF m 165 #[.val (.ref r), .val (.int rel), .val (.int (Int32.ofNat n)), .val (.ref x108), .val (.double (own_acc g n)), .second, .val (.ref x110), .val (.ref a111), .val (.int (6 : Int32)), .val (.int (2 : Int32)), .val (.ref p2), .val (.int (10 : Int32)), .val (.double (FP.ddiv (FP.i2d (Int32.ofNat (own_cnt g 5))) 4617315517961601024)), .second] [(.int (Int32.ofNat (own_cnt g 10)))]))
      refine W.g_i2d (pc1 := 166) P120.q d2_165 rfl ?_
      refine W.g_iload (pc1 := 168) P120.q d2_166 rfl rfl ?_
      refine W.g_i2d (pc1 := 169) P120.q d2_168 rfl ?_
      rw [own_k10]
      show W.Go p.tables e below _ (T120.setTop (mkF m 169 #[.val (.ref r), .val (.int rel), .val (.int (Int32.ofNat n)), .val (.ref x108), .val (.double (own_acc g n)), .second, .val (.ref x110), .val (.ref a111), .val (.int (6 : Int32)), .val (.int (2 : Int32)), .val (.ref p2), .val (.int (10 : Int32)), .val (.double (FP.ddiv (FP.i2d (Int32.ofNat (own_cnt g 5))) 4617315517961601024)), .second] [(.double (4621819117588971520 : UInt64)), (.double (FP.i2d (Int32.ofNat (own_cnt g 10))))]))
      refine W.g_ddiv (pc1 := 170) P120.q d2_169 (own_nanC (by have := own_cnt_le g 10; omega) (by decide) own_z10 (by have := own_cnt_le g 10; omega)) rfl ?_
      refine W.g_dstore (pc1 := 172) (ls2 := #[.val (.ref r), .val (.int rel), .val (.int (Int32.ofNat n)), .val (.ref x108), .val (.double (own_acc g n)), .second, .val (.ref x110), .val (.ref a111), .val (.int (6 : Int32)), .val (.int (2 : Int32)), .val (.ref p2), .val (.int (10 : Int32)), .val (.double (FP.ddiv (FP.i2d (Int32.ofNat (own_cnt g 10))) 4621819117588971520)), .second]) P120.q d2_170 rfl rfl ?_
      refine W.g_aload (pc1 := 174) P120.q d2_172 rfl rfl rfl ?_
      refine W.g_aload (pc1 := 176) P120.q d2_174 rfl rfl rfl ?_
      refine P120.callVU (pc1 := 179) (owner := "java/lang/Enum") (S.2.2.2.2.2.2.2.2.2.2.2.1.ext P120.ext0) (wd hw (k := 40) rfl) (wd hw (k := 41) rfl) (wd hw (k := 42) rfl) (by decide) (wd hw (k := 44) rfl) (wd hw (k := 43) rfl) (W.MetN.pay (W := 1) (c_ord l Z a0 hw p2 (2 : Int32) h118 (S.2.2.2.2.2.2.2.2.2.2.2.2.2.2.2.2.2.2.2.2.2.2.2.1.ext P120.ext0)) P120 (wd hw (k := 46) rfl) (wd hw (k := 45) rfl) (by decide) (by decide)) (argsL := []) (st0 := [(.ref x110)]) (lenOf pd__R_I rfl) rfl rfl (Nat.le_of_eq rfl) (by rw [hml]; rfl) (by decide) (by decide) (W.Pure.ok P120.chv) d2_176 rfl ?_
      intro v121 T121 h121 L121 q121 P121
      obtain ⟨rfl, rfl, rfl⟩ := q121
      show W.Go p.tables e below _ (T121.setTop (mkF m 179 #[.val (.ref r), .val (.int rel), .val (.int (Int32.ofNat n)), .val (.ref x108), .val (.double (own_acc g n)), .second, .val (.ref x110), .val (.ref a111), .val (.int (6 : Int32)), .val (.int (2 : Int32)), .val (.ref p2), .val (.int (10 : Int32)), .val (.double (FP.ddiv (FP.i2d (Int32.ofNat (own_cnt g 10))) 4621819117588971520)), .second] [(.int (2 : Int32)), (.ref x110)]))
      refine W.g_dload (pc1 := 181) P121.q d2_179 rfl rfl ?_
      refine P121.stD (pc1 := 182) (i := 2) V118 (by decide) (by decide) (Nat.le_of_ble_eq_true rfl) rfl (Or.inr hdn) W.safe0 d2_181 rfl ?_
      intro T122 h122 P122 W122 V122
      have VA122 := VA118.other W122 (by exact hvd)
      have HH122 := HH118.other W122 hhd
      refine W.g_iinc (pc1 := 185) (ls2 := #[.val (.ref r), .val (.int rel), .val (.int (Int32.ofNat n)), .val (.ref x108), .val (.double (own_acc g n)), .second, .val (.ref x110), .val (.ref a111), .val (.int (6 : Int32)), .val (.int ((2 : Int32) + Int32.ofInt 1)), .val (.ref p2), .val (.int (10 : Int32)), .val (.double (FP.ddiv (FP.i2d (Int32.ofNat (own_cnt g 10))) 4621819117588971520)), .second]) P122.q d2_182 rfl rfl rfl ?_
      show W.Go p.tables e below _ (T122.setTop (mkF m 185 #[.val (.ref r), .val (.int rel), .val (.int (Int32.ofNat n)), .val (.ref x108), .val (.double (own_acc g n)), .second, .val (.ref x110), .val (.ref a111), .val (.int (6 : Int32)), .val (.int (3 : Int32)), .val (.ref p2), .val (.int (10 : Int32)), .val (.double (FP.ddiv (FP.i2d (Int32.ofNat (own_cnt g 10))) 4621819117588971520)), .second] []))
      refine W.g_goto (pc1 := 113) P122.q d2_185 (by decide) rfl ?_
      refine W.g_iload (pc1 := 115) P122.q d2_113 rfl rfl ?_
      refine W.g_iload (pc1 := 117) P122.q d2_115 rfl rfl ?_
      refine W.g_cmpN (pc2 := 120) P122.q d2_117 rfl (by decide) ?_
      refine W.g_aload (pc1 := 122) P122.q d2_120 rfl rfl rfl ?_
      refine W.g_iload (pc1 := 124) P122.q d2_122 rfl rfl ?_
      refine P122.ldR (pc1 := 125) (v := .ref p3) VA122 rfl (by decide) (by decide) rfl d2_124 rfl ?_
      refine W.g_astore (pc1 := 127) (ls2 := #[.val (.ref r), .val (.int rel), .val (.int (Int32.ofNat n)), .val (.ref x108), .val (.double (own_acc g n)), .second, .val (.ref x110), .val (.ref a111), .val (.int (6 : Int32)), .val (.int (3 : Int32)), .val (.ref p3), .val (.int (10 : Int32)), .val (.double (FP.ddiv (FP.i2d (Int32.ofNat (own_cnt g 10))) 4621819117588971520)), .second]) P122.q d2_125 rfl rfl rfl ?_
      refine W.g_aload (pc1 := 129) P122.q d2_127 rfl rfl rfl ?_
      refine P122.callV (pc1 := 132) (S.2.2.2.2.2.2.2.2.2.2.2.2.1.ext P122.ext0) (wd hw (k := 33) rfl) (wd hw (k := 34) rfl) (wd hw (k := 36) rfl) (wd hw (k := 35) rfl) (notFace_of_selects (args := #[]) (mvT P122.hz (wd hw (k := 36) rfl))) (by decide) (W.MetN.pay (W := 0) (c_cut l Z a0 hw p3 15 h122 (S.2.2.2.2.2.2.2.2.2.2.2.2.2.2.2.2.2.2.1.ext P122.ext0)) P122 (wd hw (k := 37) rfl) (wd hw (k := 12) rfl) (by decide) (by decide)) (argsL := []) (st0 := []) (lenOf pd__R_I rfl) rfl rfl (Nat.le_of_eq rfl) (by rw [hml]; rfl) (by decide) (by decide) (W.Pure.ok P122.chv) d2_129 rfl ?_
      intro v123 T123 h123 L123 q123 P123
      obtain ⟨rfl, rfl, rfl⟩ := q123
      show W.Go p.tables e below _ (T123.setTop (mkF m 132 #[.val (.ref r), .val (.int rel), .val (.int (Int32.ofNat n)), .val (.ref x108), .val (.double (own_acc g n)), .second, .val (.ref x110), .val (.ref a111), .val (.int (6 : Int32)), .val (.int (3 : Int32)), .val (.ref p3), .val (.int (10 : Int32)), .val (.double (FP.ddiv (FP.i2d (Int32.ofNat (own_cnt g 10))) 4621819117588971520)), .second] [(.int (15 : Int32))]))
      refine W.g_istore (pc1 := 134) (ls2 := #[.val (.ref r), .val (.int rel), .val (.int (Int32.ofNat n)), .val (.ref x108), .val (.double (own_acc g n)), .second, .val (.ref x110), .val (.ref a111), .val (.int (6 : Int32)), .val (.int (3 : Int32)), .val (.ref p3), .val (.int (15 : Int32)), .val (.double (FP.ddiv (FP.i2d (Int32.ofNat (own_cnt g 10))) 4621819117588971520)), .second]) P123.q d2_132 rfl rfl ?_
      refine W.g_iload (pc1 := 136) P123.q d2_134 rfl rfl ?_
      refine W.g_ifY (pc1 := 157) P123.q d2_136 (by decide) rfl (by decide) ?_
      refine W.g_aloadN (pc1 := 158) P123.q d2_157 rfl rfl rfl ?_
      refine W.g_iload (pc1 := 160) P123.q d2_158 rfl rfl ?_
      refine W.g_iloadN (pc1 := 161) P123.q d2_160 rfl rfl ?_
      show W.Go p.tables e below _ (T123.setTop (mkF m 161 #[.val (.ref r), .val (.int rel), .val (.int (Int32.ofNat n)), .val (.ref x108), .val (.double (own_acc g n)), .second, .val (.ref x110), .val (.ref a111), .val (.int (6 : Int32)), .val (.int (3 : Int32)), .val (.ref p3), .val (.int (15 : Int32)), .val (.double (FP.ddiv (FP.i2d (Int32.ofNat (own_cnt g 10))) 4621819117588971520)), .second] [(.int (Int32.ofNat n)), (.int (Int32.ofNat 15)), (.ref x108)]))
      refine P123.callS (pc1 := 164) (wd hw (k := 49) rfl) (wd hw (k := 50) rfl) (wd hw (k := 3) rfl) (wd hw (k := 51) rfl) (by decide) (W.MetN.pay (W := 1) (c_min l Z a0 hw 15 n (by decide) (by omega) h122) P123 (wd hw (k := 51) rfl) (wd hw (k := 3) rfl) (by decide) (by decide)) (argsL := [(.int (Int32.ofNat 15)), (.int (Int32.ofNat n))]) (st0 := [(.ref x108)]) (lenOf pd_II_R_I rfl) rfl rfl (Nat.le_of_eq rfl) (by rw [hml]; rfl) (by decide) (by decide) (W.Pure.ok P123.chv) d2_161 rfl ?_
      intro v124 T124 h124 L124 q124 P124
      obtain ⟨rfl, rfl, rfl⟩ := q124
      show W.Go p.tables e below _ (T124.setTop (mkF m 164 #[.val (.ref r), .val (.int rel), .val (.int (Int32.ofNat n)), .val (.ref x108), .val (.double (own_acc g n)), .second, .val (.ref x110), .val (.ref a111), .val (.int (6 : Int32)), .val (.int (3 : Int32)), .val (.ref p3), .val (.int (15 : Int32)), .val (.double (FP.ddiv (FP.i2d (Int32.ofNat (own_cnt g 10))) 4621819117588971520)), .second] [(.int (Int32.ofNat (min 15 n))), (.ref x108)]))
      refine P124.ldIg (pc1 := 165) (i := (min 15 n)) HH122 (by omega) d2_164 rfl ?_
      rw [hf (min 15 n) (Nat.min_le_right _ _), own_cnt_min hg]
      show W.Go p.tables e below _ (T124.setTop (mkF m 165 #[.val (.ref r), .val (.int rel), .val (.int (Int32.ofNat n)), .val (.ref x108), .val (.double (own_acc g n)), .second, .val (.ref x110), .val (.ref a111), .val (.int (6 : Int32)), .val (.int (3 : Int32)), .val (.ref p3), .val (.int (15 : Int32)), .val (.double (FP.ddiv (FP.i2d (Int32.ofNat (own_cnt g 10))) 4621819117588971520)), .second] [(.int (Int32.ofNat (own_cnt g 15)))]))
      refine W.g_i2d (pc1 := 166) P124.q d2_165 rfl ?_
      refine W.g_iload (pc1 := 168) P124.q d2_166 rfl rfl ?_
      refine W.g_i2d (pc1 := 169) P124.q d2_168 rfl ?_
      rw [own_k15]
      show W.Go p.tables e below _ (T124.setTop (mkF m 169 #[.val (.ref r), .val (.int rel), .val (.int (Int32.ofNat n)), .val (.ref x108), .val (.double (own_acc g n)), .second, .val (.ref x110), .val (.ref a111), .val (.int (6 : Int32)), .val (.int (3 : Int32)), .val (.ref p3), .val (.int (15 : Int32)), .val (.double (FP.ddiv (FP.i2d (Int32.ofNat (own_cnt g 10))) 4621819117588971520)), .second] [(.double (4624633867356078080 : UInt64)), (.double (FP.i2d (Int32.ofNat (own_cnt g 15))))]))
      refine W.g_ddiv (pc1 := 170) P124.q d2_169 (own_nanC (by have := own_cnt_le g 15; omega) (by decide) own_z15 (by have := own_cnt_le g 15; omega)) rfl ?_
      refine W.g_dstore (pc1 := 172) (ls2 := #[.val (.ref r), .val (.int rel), .val (.int (Int32.ofNat n)), .val (.ref x108), .val (.double (own_acc g n)), .second, .val (.ref x110), .val (.ref a111), .val (.int (6 : Int32)), .val (.int (3 : Int32)), .val (.ref p3), .val (.int (15 : Int32)), .val (.double (FP.ddiv (FP.i2d (Int32.ofNat (own_cnt g 15))) 4624633867356078080)), .second]) P124.q d2_170 rfl rfl ?_
      refine W.g_aload (pc1 := 174) P124.q d2_172 rfl rfl rfl ?_
      refine W.g_aload (pc1 := 176) P124.q d2_174 rfl rfl rfl ?_
      refine P124.callVU (pc1 := 179) (owner := "java/lang/Enum") (S.2.2.2.2.2.2.2.2.2.2.2.2.1.ext P124.ext0) (wd hw (k := 40) rfl) (wd hw (k := 41) rfl) (wd hw (k := 42) rfl) (by decide) (wd hw (k := 44) rfl) (wd hw (k := 43) rfl) (W.MetN.pay (W := 1) (c_ord l Z a0 hw p3 (3 : Int32) h122 (S.2.2.2.2.2.2.2.2.2.2.2.2.2.2.2.2.2.2.2.2.2.2.2.2.1.ext P124.ext0)) P124 (wd hw (k := 46) rfl) (wd hw (k := 45) rfl) (by decide) (by decide)) (argsL := []) (st0 := [(.ref x110)]) (lenOf pd__R_I rfl) rfl rfl (Nat.le_of_eq rfl) (by rw [hml]; rfl) (by decide) (by decide) (W.Pure.ok P124.chv) d2_176 rfl ?_
      intro v125 T125 h125 L125 q125 P125
      obtain ⟨rfl, rfl, rfl⟩ := q125
      show W.Go p.tables e below _ (T125.setTop (mkF m 179 #[.val (.ref r), .val (.int rel), .val (.int (Int32.ofNat n)), .val (.ref x108), .val (.double (own_acc g n)), .second, .val (.ref x110), .val (.ref a111), .val (.int (6 : Int32)), .val (.int (3 : Int32)), .val (.ref p3), .val (.int (15 : Int32)), .val (.double (FP.ddiv (FP.i2d (Int32.ofNat (own_cnt g 15))) 4624633867356078080)), .second] [(.int (3 : Int32)), (.ref x110)]))
      refine W.g_dload (pc1 := 181) P125.q d2_179 rfl rfl ?_
      refine P125.stD (pc1 := 182) (i := 3) V122 (by decide) (by decide) (Nat.le_of_ble_eq_true rfl) rfl (Or.inr hdn) W.safe0 d2_181 rfl ?_
      intro T126 h126 P126 W126 V126
      have VA126 := VA122.other W126 (by exact hvd)
      have HH126 := HH122.other W126 hhd
      refine W.g_iinc (pc1 := 185) (ls2 := #[.val (.ref r), .val (.int rel), .val (.int (Int32.ofNat n)), .val (.ref x108), .val (.double (own_acc g n)), .second, .val (.ref x110), .val (.ref a111), .val (.int (6 : Int32)), .val (.int ((3 : Int32) + Int32.ofInt 1)), .val (.ref p3), .val (.int (15 : Int32)), .val (.double (FP.ddiv (FP.i2d (Int32.ofNat (own_cnt g 15))) 4624633867356078080)), .second]) P126.q d2_182 rfl rfl rfl ?_
      show W.Go p.tables e below _ (T126.setTop (mkF m 185 #[.val (.ref r), .val (.int rel), .val (.int (Int32.ofNat n)), .val (.ref x108), .val (.double (own_acc g n)), .second, .val (.ref x110), .val (.ref a111), .val (.int (6 : Int32)), .val (.int (4 : Int32)), .val (.ref p3), .val (.int (15 : Int32)), .val (.double (FP.ddiv (FP.i2d (Int32.ofNat (own_cnt g 15))) 4624633867356078080)), .second] []))
      refine W.g_goto (pc1 := 113) P126.q d2_185 (by decide) rfl ?_
      refine W.g_iload (pc1 := 115) P126.q d2_113 rfl rfl ?_
      refine W.g_iload (pc1 := 117) P126.q d2_115 rfl rfl ?_
      refine W.g_cmpN (pc2 := 120) P126.q d2_117 rfl (by decide) ?_
      refine W.g_aload (pc1 := 122) P126.q d2_120 rfl rfl rfl ?_
      refine W.g_iload (pc1 := 124) P126.q d2_122 rfl rfl ?_
      refine P126.ldR (pc1 := 125) (v := .ref p4) VA126 rfl (by decide) (by decide) rfl d2_124 rfl ?_
      refine W.g_astore (pc1 := 127) (ls2 := #[.val (.ref r), .val (.int rel), .val (.int (Int32.ofNat n)), .val (.ref x108), .val (.double (own_acc g n)), .second, .val (.ref x110), .val (.ref a111), .val (.int (6 : Int32)), .val (.int (4 : Int32)), .val (.ref p4), .val (.int (15 : Int32)), .val (.double (FP.ddiv (FP.i2d (Int32.ofNat (own_cnt g 15))) 4624633867356078080)), .second]) P126.q d2_125 rfl rfl rfl ?_
      refine W.g_aload (pc1 := 129) P126.q d2_127 rfl rfl rfl ?_
      refine P126.callV (pc1 := 132) (S.2.2.2.2.2.2.2.2.2.2.2.2.2.1.ext P126.ext0) (wd hw (k := 33) rfl) (wd hw (k := 34) rfl) (wd hw (k := 36) rfl) (wd hw (k := 35) rfl) (notFace_of_selects (args := #[]) (mvT P126.hz (wd hw (k := 36) rfl))) (by decide) (W.MetN.pay (W := 0) (c_cut l Z a0 hw p4 20 h126 (S.2.2.2.2.2.2.2.2.2.2.2.2.2.2.2.2.2.2.2.1.ext P126.ext0)) P126 (wd hw (k := 37) rfl) (wd hw (k := 12) rfl) (by decide) (by decide)) (argsL := []) (st0 := []) (lenOf pd__R_I rfl) rfl rfl (Nat.le_of_eq rfl) (by rw [hml]; rfl) (by decide) (by decide) (W.Pure.ok P126.chv) d2_129 rfl ?_
      intro v127 T127 h127 L127 q127 P127
      obtain ⟨rfl, rfl, rfl⟩ := q127
      show W.Go p.tables e below _ (T127.setTop (mkF m 132 #[.val (.ref r), .val (.int rel), .val (.int (Int32.ofNat n)), .val (.ref x108), .val (.double (own_acc g n)), .second, .val (.ref x110), .val (.ref a111), .val (.int (6 : Int32)), .val (.int (4 : Int32)), .val (.ref p4), .val (.int (15 : Int32)), .val (.double (FP.ddiv (FP.i2d (Int32.ofNat (own_cnt g 15))) 4624633867356078080)), .second] [(.int (20 : Int32))]))
      refine W.g_istore (pc1 := 134) (ls2 := #[.val (.ref r), .val (.int rel), .val (.int (Int32.ofNat n)), .val (.ref x108), .val (.double (own_acc g n)), .second, .val (.ref x110), .val (.ref a111), .val (.int (6 : Int32)), .val (.int (4 : Int32)), .val (.ref p4), .val (.int (20 : Int32)), .val (.double (FP.ddiv (FP.i2d (Int32.ofNat (own_cnt g 15))) 4624633867356078080)), .second]) P127.q d2_132 rfl rfl ?_
      refine W.g_iload (pc1 := 136) P127.q d2_134 rfl rfl ?_
      refine W.g_ifY (pc1 := 157) P127.q d2_136 (by decide) rfl (by decide) ?_
      refine W.g_aloadN (pc1 := 158) P127.q d2_157 rfl rfl rfl ?_
      refine W.g_iload (pc1 := 160) P127.q d2_158 rfl rfl ?_
      refine W.g_iloadN (pc1 := 161) P127.q d2_160 rfl rfl ?_
      show W.Go p.tables e below _ (T127.setTop (mkF m 161 #[.val (.ref r), .val (.int rel), .val (.int (Int32.ofNat n)), .val (.ref x108), .val (.double (own_acc g n)), .second, .val (.ref x110), .val (.ref a111), .val (.int (6 : Int32)), .val (.int (4 : Int32)), .val (.ref p4), .val (.int (20 : Int32)), .val (.double (FP.ddiv (FP.i2d (Int32.ofNat (own_cnt g 15))) 4624633867356078080)), .second] [(.int (Int32.ofNat n)), (.int (Int32.ofNat 20)), (.ref x108)]))
      refine P127.callS (pc1 := 164) (wd hw (k := 49) rfl) (wd hw (k := 50) rfl) (wd hw (k := 3) rfl) (wd hw (k := 51) rfl) (by decide) (W.MetN.pay (W := 1) (c_min l Z a0 hw 20 n (by decide) (by omega) h126) P127 (wd hw (k := 51) rfl) (wd hw (k := 3) rfl) (by decide) (by decide)) (argsL := [(.int (Int32.ofNat 20)), (.int (Int32.ofNat n))]) (st0 := [(.ref x108)]) (lenOf pd_II_R_I rfl) rfl rfl (Nat.le_of_eq rfl) (by rw [hml]; rfl) (by decide) (by decide) (W.Pure.ok P127.chv) d2_161 rfl ?_
      intro v128 T128 h128 L128 q128 P128
      obtain ⟨rfl, rfl, rfl⟩ := q128
      show W.Go p.tables e below _ (T128.setTop (mkF m 164 #[.val (.ref r), .val (.int rel), .val (.int (Int32.ofNat n)), .val (.ref x108), .val (.double (own_acc g n)), .second, .val (.ref x110), .val (.ref a111), .val (.int (6 : Int32)), .val (.int (4 : Int32)), .val (.ref p4), .val (.int (20 : Int32)), .val (.double (FP.ddiv (FP.i2d (Int32.ofNat (own_cnt g 15))) 4624633867356078080)), .second] [(.int (Int32.ofNat (min 20 n))), (.ref x108)]))
      refine P128.ldIg (pc1 := 165) (i := (min 20 n)) HH126 (by omega) d2_164 rfl ?_
      rw [hf (min 20 n) (Nat.min_le_right _ _), own_cnt_min hg]
      show W.Go p.tables e below _ (T128.setTop (mkF m 165 #[.val (.ref r), .val (.int rel), .val (.int (Int32.ofNat n)), .val (.ref x108), .val (.double (own_acc g n)), .second, .val (.ref x110), .val (.ref a111), .val (.int (6 : Int32)), .val (.int (4 : Int32)), .val (.ref p4), .val (.int (20 : Int32)), .val (.double (FP.ddiv (FP.i2d (Int32.ofNat (own_cnt g 15))) 4624633867356078080)), .second] [(.int (Int32.ofNat (own_cnt g 20)))]))
      refine W.g_i2d (pc1 := 166) P128.q d2_165 rfl ?_
      refine W.g_iload (pc1 := 168) P128.q d2_166 rfl rfl ?_
      refine W.g_i2d (pc1 := 169) P128.q d2_168 rfl ?_
      rw [own_k20]
      show W.Go p.tables e below _ (T128.setTop (mkF m 169 #[.val (.ref r), .val (.int rel), .val (.int (Int32.ofNat n)), .val (.ref x108), .val (.double (own_acc g n)), .second, .val (.ref x110), .val (.ref a111), .val (.int (6 : Int32)), .val (.int (4 : Int32)), .val (.ref p4), .val (.int (20 : Int32)), .val (.double (FP.ddiv (FP.i2d (Int32.ofNat (own_cnt g 15))) 4624633867356078080)), .second] [(.double (4626322717216342016 : UInt64)), (.double (FP.i2d (Int32.ofNat (own_cnt g 20))))]))
      refine W.g_ddiv (pc1 := 170) P128.q d2_169 (own_nanC (by have := own_cnt_le g 20; omega) (by decide) own_z20 (by have := own_cnt_le g 20; omega)) rfl ?_
      refine W.g_dstore (pc1 := 172) (ls2 := #[.val (.ref r), .val (.int rel), .val (.int (Int32.ofNat n)), .val (.ref x108), .val (.double (own_acc g n)), .second, .val (.ref x110), .val (.ref a111), .val (.int (6 : Int32)), .val (.int (4 : Int32)), .val (.ref p4), .val (.int (20 : Int32)), .val (.double (FP.ddiv (FP.i2d (Int32.ofNat (own_cnt g 20))) 4626322717216342016)), .second]) P128.q d2_170 rfl rfl ?_
      refine W.g_aload (pc1 := 174) P128.q d2_172 rfl rfl rfl ?_
      refine W.g_aload (pc1 := 176) P128.q d2_174 rfl rfl rfl ?_
      refine P128.callVU (pc1 := 179) (owner := "java/lang/Enum") (S.2.2.2.2.2.2.2.2.2.2.2.2.2.1.ext P128.ext0) (wd hw (k := 40) rfl) (wd hw (k := 41) rfl) (wd hw (k := 42) rfl) (by decide) (wd hw (k := 44) rfl) (wd hw (k := 43) rfl) (W.MetN.pay (W := 1) (c_ord l Z a0 hw p4 (4 : Int32) h126 (S.2.2.2.2.2.2.2.2.2.2.2.2.2.2.2.2.2.2.2.2.2.2.2.2.2.1.ext P128.ext0)) P128 (wd hw (k := 46) rfl) (wd hw (k := 45) rfl) (by decide) (by decide)) (argsL := []) (st0 := [(.ref x110)]) (lenOf pd__R_I rfl) rfl rfl (Nat.le_of_eq rfl) (by rw [hml]; rfl) (by decide) (by decide) (W.Pure.ok P128.chv) d2_176 rfl ?_
      intro v129 T129 h129 L129 q129 P129
      obtain ⟨rfl, rfl, rfl⟩ := q129
      show W.Go p.tables e below _ (T129.setTop (mkF m 179 #[.val (.ref r), .val (.int rel), .val (.int (Int32.ofNat n)), .val (.ref x108), .val (.double (own_acc g n)), .second, .val (.ref x110), .val (.ref a111), .val (.int (6 : Int32)), .val (.int (4 : Int32)), .val (.ref p4), .val (.int (20 : Int32)), .val (.double (FP.ddiv (FP.i2d (Int32.ofNat (own_cnt g 20))) 4626322717216342016)), .second] [(.int (4 : Int32)), (.ref x110)]))
      refine W.g_dload (pc1 := 181) P129.q d2_179 rfl rfl ?_
      refine P129.stD (pc1 := 182) (i := 4) V126 (by decide) (by decide) (Nat.le_of_ble_eq_true rfl) rfl (Or.inr hdn) W.safe0 d2_181 rfl ?_
      intro T130 h130 P130 W130 V130
      have VA130 := VA126.other W130 (by exact hvd)
      have HH130 := HH126.other W130 hhd
      refine W.g_iinc (pc1 := 185) (ls2 := #[.val (.ref r), .val (.int rel), .val (.int (Int32.ofNat n)), .val (.ref x108), .val (.double (own_acc g n)), .second, .val (.ref x110), .val (.ref a111), .val (.int (6 : Int32)), .val (.int ((4 : Int32) + Int32.ofInt 1)), .val (.ref p4), .val (.int (20 : Int32)), .val (.double (FP.ddiv (FP.i2d (Int32.ofNat (own_cnt g 20))) 4626322717216342016)), .second]) P130.q d2_182 rfl rfl rfl ?_
      show W.Go p.tables e below _ (T130.setTop (mkF m 185 #[.val (.ref r), .val (.int rel), .val (.int (Int32.ofNat n)), .val (.ref x108), .val (.double (own_acc g n)), .second, .val (.ref x110), .val (.ref a111), .val (.int (6 : Int32)), .val (.int (5 : Int32)), .val (.ref p4), .val (.int (20 : Int32)), .val (.double (FP.ddiv (FP.i2d (Int32.ofNat (own_cnt g 20))) 4626322717216342016)), .second] []))
      refine W.g_goto (pc1 := 113) P130.q d2_185 (by decide) rfl ?_
      refine W.g_iload (pc1 := 115) P130.q d2_113 rfl rfl ?_
      refine W.g_iload (pc1 := 117) P130.q d2_115 rfl rfl ?_
      refine W.g_cmpN (pc2 := 120) P130.q d2_117 rfl (by decide) ?_
      refine W.g_aload (pc1 := 122) P130.q d2_120 rfl rfl rfl ?_
      refine W.g_iload (pc1 := 124) P130.q d2_122 rfl rfl ?_
      refine P130.ldR (pc1 := 125) (v := .ref p5) VA130 rfl (by decide) (by decide) rfl d2_124 rfl ?_
      refine W.g_astore (pc1 := 127) (ls2 := #[.val (.ref r), .val (.int rel), .val (.int (Int32.ofNat n)), .val (.ref x108), .val (.double (own_acc g n)), .second, .val (.ref x110), .val (.ref a111), .val (.int (6 : Int32)), .val (.int (5 : Int32)), .val (.ref p5), .val (.int (20 : Int32)), .val (.double (FP.ddiv (FP.i2d (Int32.ofNat (own_cnt g 20))) 4626322717216342016)), .second]) P130.q d2_125 rfl rfl rfl ?_
      refine W.g_aload (pc1 := 129) P130.q d2_127 rfl rfl rfl ?_
      refine P130.callV (pc1 := 132) (S.2.2.2.2.2.2.2.2.2.2.2.2.2.2.1.ext P130.ext0) (wd hw (k := 33) rfl) (wd hw (k := 34) rfl) (wd hw (k := 36) rfl) (wd hw (k := 35) rfl) (notFace_of_selects (args := #[]) (mvT P130.hz (wd hw (k := 36) rfl))) (by decide) (W.MetN.pay (W := 0) (c_cut l Z a0 hw p5 30 h130 (S.2.2.2.2.2.2.2.2.2.2.2.2.2.2.2.2.2.2.2.2.1.ext P130.ext0)) P130 (wd hw (k := 37) rfl) (wd hw (k := 12) rfl) (by decide) (by decide)) (argsL := []) (st0 := []) (lenOf pd__R_I rfl) rfl rfl (Nat.le_of_eq rfl) (by rw [hml]; rfl) (by decide) (by decide) (W.Pure.ok P130.chv) d2_129 rfl ?_
      intro v131 T131 h131 L131 q131 P131
      obtain ⟨rfl, rfl, rfl⟩ := q131
      show W.Go p.tables e below _ (T131.setTop (mkF m 132 #[.val (.ref r), .val (.int rel), .val (.int (Int32.ofNat n)), .val (.ref x108), .val (.double (own_acc g n)), .second, .val (.ref x110), .val (.ref a111), .val (.int (6 : Int32)), .val (.int (5 : Int32)), .val (.ref p5), .val (.int (20 : Int32)), .val (.double (FP.ddiv (FP.i2d (Int32.ofNat (own_cnt g 20))) 4626322717216342016)), .second] [(.int (30 : Int32))]))
      refine W.g_istore (pc1 := 134) (ls2 := #[.val (.ref r), .val (.int rel), .val (.int (Int32.ofNat n)), .val (.ref x108), .val (.double (own_acc g n)), .second, .val (.ref x110), .val (.ref a111), .val (.int (6 : Int32)), .val (.int (5 : Int32)), .val (.ref p5), .val (.int (30 : Int32)), .val (.double (FP.ddiv (FP.i2d (Int32.ofNat (own_cnt g 20))) 4626322717216342016)), .second]) P131.q d2_132 rfl rfl ?_
      refine W.g_iload (pc1 := 136) P131.q d2_134 rfl rfl ?_
      refine W.g_ifY (pc1 := 157) P131.q d2_136 (by decide) rfl (by decide) ?_
      refine W.g_aloadN (pc1 := 158) P131.q d2_157 rfl rfl rfl ?_
      refine W.g_iload (pc1 := 160) P131.q d2_158 rfl rfl ?_
      refine W.g_iloadN (pc1 := 161) P131.q d2_160 rfl rfl ?_
      show W.Go p.tables e below _ (T131.setTop (mkF m 161 #[.val (.ref r), .val (.int rel), .val (.int (Int32.ofNat n)), .val (.ref x108), .val (.double (own_acc g n)), .second, .val (.ref x110), .val (.ref a111), .val (.int (6 : Int32)), .val (.int (5 : Int32)), .val (.ref p5), .val (.int (30 : Int32)), .val (.double (FP.ddiv (FP.i2d (Int32.ofNat (own_cnt g 20))) 4626322717216342016)), .second] [(.int (Int32.ofNat n)), (.int (Int32.ofNat 30)), (.ref x108)]))
      refine P131.callS (pc1 := 164) (wd hw (k := 49) rfl) (wd hw (k := 50) rfl) (wd hw (k := 3) rfl) (wd hw (k := 51) rfl) (by decide) (W.MetN.pay (W := 1) (c_min l Z a0 hw 30 n (by decide) (by omega) h130) P131 (wd hw (k := 51) rfl) (wd hw (k := 3) rfl) (by decide) (by decide)) (argsL := [(.int (Int32.ofNat 30)), (.int (Int32.ofNat n))]) (st0 := [(.ref x108)]) (lenOf pd_II_R_I rfl) rfl rfl (Nat.le_of_eq rfl) (by rw [hml]; rfl) (by decide) (by decide) (W.Pure.ok P131.chv) d2_161 rfl ?_
      intro v132 T132 h132 L132 q132 P132
      obtain ⟨rfl, rfl, rfl⟩ := q132
      show W.Go p.tables e below _ (T132.setTop (mkF m 164 #[.val (.ref r), .val (.int rel), .val (.int (Int32.ofNat n)), .val (.ref x108), .val (.double (own_acc g n)), .second, .val (.ref x110), .val (.ref a111), .val (.int (6 : Int32)), .val (.int (5 : Int32)), .val (.ref p5), .val (.int (30 : Int32)), .val (.double (FP.ddiv (FP.i2d (Int32.ofNat (own_cnt g 20))) 4626322717216342016)), .second] [(.int (Int32.ofNat (min 30 n))), (.ref x108)]))
      refine P132.ldIg (pc1 := 165) (i := (min 30 n)) HH130 (by omega) d2_164 rfl ?_
      rw [hf (min 30 n) (Nat.min_le_right _ _), own_cnt_min hg]
      show W.Go p.tables e below _ (T132.setTop (mkF m 165 #[.val (.ref r), .val (.int rel), .val (.int (Int32.ofNat n)), .val (.ref x108), .val (.double (own_acc g n)), .second, .val (.ref x110), .val (.ref a111), .val (.int (6 : Int32)), .val (.int (5 : Int32)), .val (.ref p5), .val (.int (30 : Int32)), .val (.double (FP.ddiv (FP.i2d (Int32.ofNat (own_cnt g 20))) 4626322717216342016)), .second] [(.int (Int32.ofNat (own_cnt g 30)))]))
      refine W.g_i2d (pc1 := 166) P132.q d2_165 rfl ?_
      refine W.g_iload (pc1 := 168) P132.q d2_166 rfl rfl ?_
      refine W.g_i2d (pc1 := 169) P132.q d2_168 rfl ?_
      rw [own_k30]
      show W.Go p.tables e below _ (T132.setTop (mkF m 169 #[.val (.ref r), .val (.int rel), .val (.int (Int32.ofNat n)), .val (.ref x108), .val (.double (own_acc g n)), .second, .val (.ref x110), .val (.ref a111), .val (.int (6 : Int32)), .val (.int (5 : Int32)), .val (.ref p5), .val (.int (30 : Int32)), .val (.double (FP.ddiv (FP.i2d (Int32.ofNat (own_cnt g 20))) 4626322717216342016)), .second] [(.double (4629137466983448576 : UInt64)), (.double (FP.i2d (Int32.ofNat (own_cnt g 30))))]))
      refine W.g_ddiv (pc1 := 170) P132.q d2_169 (own_nanC (by have := own_cnt_le g 30; omega) (by decide) own_z30 (by have := own_cnt_le g 30; omega)) rfl ?_
      refine W.g_dstore (pc1 := 172) (ls2 := #[.val (.ref r), .val (.int rel), .val (.int (Int32.ofNat n)), .val (.ref x108), .val (.double (own_acc g n)), .second, .val (.ref x110), .val (.ref a111), .val (.int (6 : Int32)), .val (.int (5 : Int32)), .val (.ref p5), .val (.int (30 : Int32)), .val (.double (FP.ddiv (FP.i2d (Int32.ofNat (own_cnt g 30))) 4629137466983448576)), .second]) P132.q d2_170 rfl rfl ?_
      refine W.g_aload (pc1 := 174) P132.q d2_172 rfl rfl rfl ?_
      refine W.g_aload (pc1 := 176) P132.q d2_174 rfl rfl rfl ?_
      refine P132.callVU (pc1 := 179) (owner := "java/lang/Enum") (S.2.2.2.2.2.2.2.2.2.2.2.2.2.2.1.ext P132.ext0) (wd hw (k := 40) rfl) (wd hw (k := 41) rfl) (wd hw (k := 42) rfl) (by decide) (wd hw (k := 44) rfl) (wd hw (k := 43) rfl) (W.MetN.pay (W := 1) (c_ord l Z a0 hw p5 (5 : Int32) h130 (S.2.2.2.2.2.2.2.2.2.2.2.2.2.2.2.2.2.2.2.2.2.2.2.2.2.2.ext P132.ext0)) P132 (wd hw (k := 46) rfl) (wd hw (k := 45) rfl) (by decide) (by decide)) (argsL := []) (st0 := [(.ref x110)]) (lenOf pd__R_I rfl) rfl rfl (Nat.le_of_eq rfl) (by rw [hml]; rfl) (by decide) (by decide) (W.Pure.ok P132.chv) d2_176 rfl ?_
      intro v133 T133 h133 L133 q133 P133
      obtain ⟨rfl, rfl, rfl⟩ := q133
      show W.Go p.tables e below _ (T133.setTop (mkF m 179 #[.val (.ref r), .val (.int rel), .val (.int (Int32.ofNat n)), .val (.ref x108), .val (.double (own_acc g n)), .second, .val (.ref x110), .val (.ref a111), .val (.int (6 : Int32)), .val (.int (5 : Int32)), .val (.ref p5), .val (.int (30 : Int32)), .val (.double (FP.ddiv (FP.i2d (Int32.ofNat (own_cnt g 30))) 4629137466983448576)), .second] [(.int (5 : Int32)), (.ref x110)]))
      refine W.g_dload (pc1 := 181) P133.q d2_179 rfl rfl ?_
      refine P133.stD (pc1 := 182) (i := 5) V130 (by decide) (by decide) (Nat.le_of_ble_eq_true rfl) rfl (Or.inr hdn) W.safe0 d2_181 rfl ?_
      intro T134 h134 P134 W134 V134
      have VA134 := VA130.other W134 (by exact hvd)
      have HH134 := HH130.other W134 hhd
      refine W.g_iinc (pc1 := 185) (ls2 := #[.val (.ref r), .val (.int rel), .val (.int (Int32.ofNat n)), .val (.ref x108), .val (.double (own_acc g n)), .second, .val (.ref x110), .val (.ref a111), .val (.int (6 : Int32)), .val (.int ((5 : Int32) + Int32.ofInt 1)), .val (.ref p5), .val (.int (30 : Int32)), .val (.double (FP.ddiv (FP.i2d (Int32.ofNat (own_cnt g 30))) 4629137466983448576)), .second]) P134.q d2_182 rfl rfl rfl ?_
      show W.Go p.tables e below _ (T134.setTop (mkF m 185 #[.val (.ref r), .val (.int rel), .val (.int (Int32.ofNat n)), .val (.ref x108), .val (.double (own_acc g n)), .second, .val (.ref x110), .val (.ref a111), .val (.int (6 : Int32)), .val (.int (6 : Int32)), .val (.ref p5), .val (.int (30 : Int32)), .val (.double (FP.ddiv (FP.i2d (Int32.ofNat (own_cnt g 30))) 4629137466983448576)), .second] []))
      refine W.g_goto (pc1 := 113) P134.q d2_185 (by decide) rfl ?_
      refine W.g_iload (pc1 := 115) P134.q d2_113 rfl rfl ?_
      refine W.g_iload (pc1 := 117) P134.q d2_115 rfl rfl ?_
      refine W.g_cmpY (pc1 := 188) P134.q d2_117 (by decide) rfl (by decide) ?_
      subst hzm
      refine P134.newO (pc1 := 191) (wd hw (k := 52) rfl) (wd hw (k := 53) rfl) (wd hw (k := 7) rfl) (by decide) (by decide) d2_188 rfl ?_
      intro T135 h135 x135 g135 P135 E135 A135 D135 U135
      refine W.g_dup (pc1 := 192) P135.q d2_191 rfl rfl ?_
      refine W.g_aload (pc1 := 194) P135.q d2_192 rfl rfl rfl ?_
      have Fd : Fld Z h135 x135 "com/example/broker/broker/eval/RunMeasures" "values" "[D" .null := D135 (Or.inr (wd hw (k := 61) rfl)) (ty := .array .double) (by decide)
      refine P135.callN (pc1 := 197) rfl (wd hw (k := 54) rfl) (wd hw (k := 55) rfl) (wd hw (k := 56) rfl) (by decide) (W.MetN.pay (W := 1) (c_init l Z a0 hw x135 x110 h135 A135 _ Fd) P135 (wd hw (k := 56) rfl) (wd hw (k := 7) rfl) (by decide) (by decide)) (argsL := [(.ref x110)]) (st0 := [(.ref x135)]) (lenOf pd_AD_R_V rfl) rfl rfl (Nat.le_of_eq rfl) (by rw [hml]; rfl) (by decide) (by decide) (fun _ _ _ q => ⟨q.2.1.up P135.sz (allS (Or.inr (by rw [g135]; exact P134.sz)) all0), CHr.keep q.2.2.1 (sfS W.safe0 sf0) P135.chv⟩) d2_194 rfl ?_
      intro v136 T136 h136 L136 q136 P136
      obtain ⟨rfl, f136, K136, A136, F136⟩ := q136
      show W.Go p.tables e below _ (T136.setTop (mkF m 197 #[.val (.ref r), .val (.int rel), .val (.int (Int32.ofNat n)), .val (.ref x108), .val (.double (own_acc g n)), .second, .val (.ref x110), .val (.ref a111), .val (.int (6 : Int32)), .val (.int (6 : Int32)), .val (.ref p5), .val (.int (30 : Int32)), .val (.double (FP.ddiv (FP.i2d (Int32.ofNat (own_cnt g 30))) 4629137466983448576)), .second] [(.ref x135)]))
      have DX := (V134.ext E135).keep K136 (ninS (Nat.ne_of_lt (by rw [g135]; exact V134.lt)) nin0)
      exact P136.retAN hlk hret rfl rfl rfl d2_197 (by decide) (by decide) ⟨x135, x110, _, rfl, P136.fr, P136.ext0, A136, F136, DX⟩
    refine W.g_if (pc1 := 147) (pc2 := 143) P112.q d2_140 (by decide) rfl rfl (fun (hr : ¬ rel = 0) => ?_) (fun (hr : ¬ (¬ rel = 0)) => ?_)
    · refine W.g_dload (pc1 := 149) P112.q d2_147 rfl rfl ?_
      refine W.g_iloadN (pc1 := 150) P112.q d2_149 rfl rfl ?_
      refine W.g_i2d (pc1 := 151) P112.q d2_150 rfl ?_
      refine W.g_ddiv (pc1 := 152) P112.q d2_151 (hnn hr) rfl ?_
      exact JM _ (by rw [own_map, if_neg hr])
    · refine W.g_dconst0 (pc1 := 144) P112.q d2_143 rfl ?_
      refine W.g_goto (pc1 := 152) P112.q d2_144 (by decide) rfl ?_
      exact JM _ (by rw [own_map, if_pos (Decidable.byContradiction hr)])
  have loop : ∀ (q i : Nat), i + q = n → ∀ (T1 : State) (L1 : List Loc) (h1 : Heap) (f : Nat → Int32), W.Pos p l e ({ frames := 3, cells := 5, slots := 40, locals := 60 } : Room) s m #[.ref r, .int rel] below meth c prog_38_method_2_code Z [] [] h0 "com/example/broker/broker/eval/RunMeasures" s.vm T1 L1 1 16 h1 → (∀ j, j ≤ i → f j = Int32.ofNat (own_cnt g j)) → W.Arg Z h1 x108 k108 .int (n + 1) f → W.Go p.tables e below (W.GN s (QO Z [.double (own_map g n rel), .double (FP.ddiv (FP.i2d (Int32.ofNat (own_cnt g 5))) 4617315517961601024), .double (FP.ddiv (FP.i2d (Int32.ofNat (own_cnt g 10))) 4621819117588971520), .double (FP.ddiv (FP.i2d (Int32.ofNat (own_cnt g 15))) 4624633867356078080), .double (FP.ddiv (FP.i2d (Int32.ofNat (own_cnt g 20))) 4626322717216342016), .double (FP.ddiv (FP.i2d (Int32.ofNat (own_cnt g 30))) 4629137466983448576)] h0) ({ frames := 3, cells := 5, slots := 40, locals := 60 } : Room)) (T1.setTop (mkF m 15 #[.val (.ref r), .val (.int rel), .val (.int (Int32.ofNat n)), .val (.ref x108), .val (.double (own_acc g i)), .second, .val (.int (Int32.ofNat (i + 1))), .unset, .unset, .unset, .unset, .unset, .unset, .unset] [])) := by
    intro q
    induction q with
    | zero =>
      intro i hi T1 L1 h1 f P1 hf H1
      obtain rfl : n = i := by omega
      refine W.g_iload (pc1 := 17) P1.q d2_15 rfl rfl ?_
      refine W.g_iloadN (pc1 := 18) P1.q d2_17 rfl rfl ?_
      refine W.g_cmpY (pc1 := 68) P1.q d2_18 (by decide) rfl ((W.lt32 (by omega) (by omega)).mpr (by omega)) ?_
      exact done T1 L1 h1 f P1 hf H1
    | succ q ih =>
      intro i hi T1 L1 h1 f P1 hf H1
      refine W.g_iload (pc1 := 17) P1.q d2_15 rfl rfl ?_
      refine W.g_iloadN (pc1 := 18) P1.q d2_17 rfl rfl ?_
      refine W.g_cmpN (pc2 := 21) P1.q d2_18 rfl (fun q => absurd ((W.lt32 (by omega) (by omega)).mp q) (by omega)) ?_
      refine W.g_aloadN (pc1 := 22) P1.q d2_21 rfl rfl rfl ?_
      refine W.g_iload (pc1 := 24) P1.q d2_22 rfl rfl ?_
      refine W.g_aloadN (pc1 := 25) P1.q d2_24 rfl rfl rfl ?_
      refine W.g_iload (pc1 := 27) P1.q d2_25 rfl rfl ?_
      refine W.g_iconst (pc1 := 28) (v := (1 : Int32)) P1.q d2_27 (by decide) rfl ?_
      refine W.g_isub (pc1 := 29) P1.q d2_28 rfl ?_
      rw [own_p1]
      refine P1.ldIg (pc1 := 30) (i := i) H1 (by omega) d2_29 rfl ?_
      rw [hf i (Nat.le_refl i)]
      refine P1.stIg (pc1 := 31) (x := (Int32.ofNat (own_cnt g i))) H1 (i := i + 1) (by omega) (Or.inr (Nat.le_of_eq g108.symm)) W.safe0 d2_30 rfl ?_
      intro T137 h137 P137 W137 H137
      refine W.g_aloadN (pc1 := 32) P137.q d2_31 rfl rfl rfl ?_
      refine W.g_iload (pc1 := 34) P137.q d2_32 rfl rfl ?_
      refine W.g_iconst (pc1 := 35) (v := (1 : Int32)) P137.q d2_34 (by decide) rfl ?_
      refine W.g_isub (pc1 := 36) P137.q d2_35 rfl ?_
      rw [own_p1]
      refine P137.ldZg (pc1 := 37) (i := i) (A0.ext P137.ext0) (by omega) d2_36 rfl ?_
      show W.Go p.tables e below _ (T137.setTop (mkF m 37 #[.val (.ref r), .val (.int rel), .val (.int (Int32.ofNat n)), .val (.ref x108), .val (.double (own_acc g i)), .second, .val (.int (Int32.ofNat (i + 1))), .unset, .unset, .unset, .unset, .unset, .unset, .unset] [(.int (b01 (g i)))]))
      cases hgi : g i
      · show W.Go p.tables e below _ (T137.setTop (mkF m 37 #[.val (.ref r), .val (.int rel), .val (.int (Int32.ofNat n)), .val (.ref x108), .val (.double (own_acc g i)), .second, .val (.int (Int32.ofNat (i + 1))), .unset, .unset, .unset, .unset, .unset, .unset, .unset] [(.int (0 : Int32))]))
        refine W.g_ifY (pc1 := 62) P137.q d2_37 (by decide) rfl (by decide) ?_
        refine W.g_iinc (pc1 := 65) (ls2 := #[.val (.ref r), .val (.int rel), .val (.int (Int32.ofNat n)), .val (.ref x108), .val (.double (own_acc g i)), .second, .val (.int ((Int32.ofNat (i + 1)) + Int32.ofInt 1)), .unset, .unset, .unset, .unset, .unset, .unset, .unset]) P137.q d2_62 rfl rfl rfl ?_
        rw [W.succ32]
        refine W.g_goto (pc1 := 15) P137.q d2_65 (by decide) rfl ?_
        rw [← own_accN hgi]
        exact ih (i + 1) (by omega) T137 _ h137 _ P137 (own_fN hf hgi) H137
      · show W.Go p.tables e below _ (T137.setTop (mkF m 37 #[.val (.ref r), .val (.int rel), .val (.int (Int32.ofNat n)), .val (.ref x108), .val (.double (own_acc g i)), .second, .val (.int (Int32.ofNat (i + 1))), .unset, .unset, .unset, .unset, .unset, .unset, .unset] [(.int (1 : Int32))]))
        refine W.g_ifN (pc2 := 40) P137.q d2_37 rfl (by decide) ?_
        refine W.g_aloadN (pc1 := 41) P137.q d2_40 rfl rfl rfl ?_
        refine W.g_iload (pc1 := 43) P137.q d2_41 rfl rfl ?_
        refine W.g_dup2 (pc1 := 44) P137.q d2_43 rfl rfl rfl ?_
        refine P137.ldIg (pc1 := 45) (i := i + 1) H137 (by omega) d2_44 rfl ?_
        rw [own_upd]
        refine W.g_iconst (pc1 := 46) (v := (1 : Int32)) P137.q d2_45 (by decide) rfl ?_
        refine W.g_iadd (pc1 := 47) P137.q d2_46 rfl ?_
        rw [own_s1]
        refine P137.stIg (pc1 := 48) (x := (Int32.ofNat (own_cnt g i + 1))) H137 (i := i + 1) (by omega) (Or.inr (Nat.le_of_eq g108.symm)) W.safe0 d2_47 rfl ?_
        intro T138 h138 P138 W138 H138
        refine W.g_dload (pc1 := 50) P138.q d2_48 rfl rfl ?_
        refine W.g_aloadN (pc1 := 51) P138.q d2_50 rfl rfl rfl ?_
        refine W.g_iload (pc1 := 53) P138.q d2_51 rfl rfl ?_
        refine P138.ldIg (pc1 := 54) (i := i + 1) H138 (by omega) d2_53 rfl ?_
        rw [own_upd]
        refine W.g_i2d (pc1 := 55) P138.q d2_54 rfl ?_
        refine W.g_iload (pc1 := 57) P138.q d2_55 rfl rfl ?_
        refine W.g_i2d (pc1 := 58) P138.q d2_57 rfl ?_
        refine W.g_ddiv (pc1 := 59) P138.q d2_58 (own_nanQ hn (by omega) hgi) rfl ?_
        show W.Go p.tables e below _ (T138.setTop (mkF m 59 #[.val (.ref r), .val (.int rel), .val (.int (Int32.ofNat n)), .val (.ref x108), .val (.double (own_acc g i)), .second, .val (.int (Int32.ofNat (i + 1))), .unset, .unset, .unset, .unset, .unset, .unset, .unset] [(.double (FP.ddiv (FP.i2d (Int32.ofNat (own_cnt g i + 1))) (FP.i2d (Int32.ofNat (i + 1))))), (.double (own_acc g i))]))
        refine W.g_dadd (pc1 := 60) P138.q d2_59 (by rw [own_accY hgi (by omega)]; exact own_nanA (by omega)) rfl ?_
        rw [own_accY hgi (by omega)]
        show W.Go p.tables e below _ (T138.setTop (mkF m 60 #[.val (.ref r), .val (.int rel), .val (.int (Int32.ofNat n)), .val (.ref x108), .val (.double (own_acc g i)), .second, .val (.int (Int32.ofNat (i + 1))), .unset, .unset, .unset, .unset, .unset, .unset, .unset] [(.double (own_acc g (i + 1)))]))
        refine W.g_dstore (pc1 := 62) (ls2 := #[.val (.ref r), .val (.int rel), .val (.int (Int32.ofNat n)), .val (.ref x108), .val (.double (own_acc g (i + 1))), .second, .val (.int (Int32.ofNat (i + 1))), .unset, .unset, .unset, .unset, .unset, .unset, .unset]) P138.q d2_60 rfl rfl ?_
        refine W.g_iinc (pc1 := 65) (ls2 := #[.val (.ref r), .val (.int rel), .val (.int (Int32.ofNat n)), .val (.ref x108), .val (.double (own_acc g (i + 1))), .second, .val (.int ((Int32.ofNat (i + 1)) + Int32.ofInt 1)), .unset, .unset, .unset, .unset, .unset, .unset, .unset]) P138.q d2_62 rfl rfl rfl ?_
        rw [W.succ32]
        refine W.g_goto (pc1 := 15) P138.q d2_65 (by decide) rfl ?_
        exact ih (i + 1) (by omega) T138 _ h138 _ P138 (own_fY hf hgi) H138
  exact loop n 0 (Nat.zero_add n) _ _ _ _ P108 (fun j hj => by cases Nat.le_zero.mp hj; rfl) H0
def own_bit (bits : Int32) : Nat → Int32
  | 0 => bits &&& 1
  | j + 1 => (bits >>> (Int32.ofNat (j + 1) &&& 31)) &&& 1
def own_g (bits : Int32) (n j : Nat) : Bool := decide (j < n) && !decide (own_bit bits j = 0)
theorem own_gN {bits : Int32} {n j : Nat} (h : n ≤ j) : own_g bits n j = false := by unfold own_g; rw [decide_eq_false (by omega)]; rfl
theorem own_g0 {bits : Int32} {n j : Nat} (h : own_bit bits j = 0) : own_g bits n j = false := by unfold own_g; rw [decide_eq_true h]; simp
theorem own_gY {bits : Int32} {n j : Nat} (h : j < n) (h2 : ¬ own_bit bits j = 0) : own_g bits n j = true := by unfold own_g; rw [decide_eq_true h, decide_eq_false h2]; rfl
def own_st (g : Nat → Bool) (n k : Nat) (f : Nat → Int32) : Prop := ∀ j, j < n → f j = if j < k then b01 (g j) else 0
theorem own_stN {g : Nat → Bool} {n k : Nat} {f : Nat → Int32} (hf : own_st g n k f) (hg : g k = false) : own_st g n (k + 1) f := fun j hj => by
  rw [hf j hj]
  by_cases q : j = k
  · subst q; rw [if_neg (by omega), if_pos (by omega), hg]; rfl
  · by_cases r : j < k
    · rw [if_pos r, if_pos (by omega)]
    · rw [if_neg r, if_neg (by omega)]
theorem own_stY {g : Nat → Bool} {n k : Nat} {f : Nat → Int32} (hf : own_st g n k f) (hg : g k = true) : own_st g n (k + 1) (W.upd f k (nar .boolean 1)) := fun j hj => by
  unfold W.upd
  by_cases q : j = k
  · subst q; rw [if_pos rfl, if_pos (by omega), hg]; rfl
  · rw [if_neg q, hf j hj]
    by_cases r : j < k
    · rw [if_pos r, if_pos (by omega)]
    · rw [if_neg r, if_neg (by omega)]
theorem own_n15 (x : Int32) : ∃ n : Nat, n ≤ 15 ∧ (x &&& 15) = Int32.ofNat n := by
  have q := c_mask x 15 4 (by decide) (by decide)
  have h0 : 0 ≤ (x &&& 15).toInt := by rw [q]; exact Int.emod_nonneg _ (by decide)
  refine ⟨(x &&& 15).toInt.toNat, by omega, ?_⟩
  apply Int32.toInt_inj.mp
  rw [W.i32 (by omega)]; omega
theorem own_maxI (a b : Int32) : b.toInt ≤ (own_max a b).toInt := by
  unfold own_max
  by_cases h : a < b
  · rw [if_pos h]; exact Int.le_refl _
  · rw [if_neg h]; rw [Int32.lt_iff_toInt_lt] at h; omega
theorem own_cself {z : UInt64} (h : Jvm.Free.Fl.NoNaN64 z) : cmpValue (FP.dcmp z z) .l = 0 := dcmpV_self h .l
/-- the law's last part, on numbers -/
theorem own_end {g : Nat → Bool} {n : Nat} (hn : n ≤ 15) (hg : ∀ j, n ≤ j → g j = false) {rel : Int32} (hr : (own_cnt g 15 : Int) ≤ rel.toInt) (h0 : ¬ rel = 0) :
    (Jvm.Free.Fl.NoNaN64 (FP.ddiv (own_acc g n) (FP.i2d rel)) ∧ Jvm.Free.Fl.NoNaN64 (FP.dmul (own_map g n rel) (FP.i2d rel)) ∧ Jvm.Free.Fl.NoNaN64 (FP.dmul (FP.dmul (own_map g n rel) (FP.i2d rel)) 4689934550124462080) ∧ Jvm.Free.Fl.NoNaN64 (FP.dsub (FP.dmul (FP.dmul (own_map g n rel) (FP.i2d rel)) 4689934550124462080) (FP.i2d (Int32.ofNat (own_sm g 15))))) ∧
    cmpValue (FP.dcmp (FP.dsub (FP.dmul (FP.dmul (own_map g n rel) (FP.i2d rel)) 4689934550124462080) (FP.i2d (Int32.ofNat (own_sm g 15)))) 4562254508917369340) .g < 0 ∧
    cmpValue (FP.dcmp (FP.dneg (FP.dsub (FP.dmul (FP.dmul (own_map g n rel) (FP.i2d rel)) 4689934550124462080) (FP.i2d (Int32.ofNat (own_sm g 15))))) 4562254508917369340) .g < 0 := by
  have r0 : rel.toInt ≠ 0 := fun h => h0 (Int32.toInt_inj.mp h)
  have r1 := rel.toInt_lt
  obtain ⟨U, hU⟩ : ∃ U : Nat, 2 ^ 1074 = U := ⟨_, rfl⟩
  obtain ⟨T, hT⟩ : ∃ T : Nat, 2 ^ 1026 = T := ⟨_, rfl⟩
  obtain ⟨-, a, pa, a1, a2⟩ := own_accP g hU hT 15 (Nat.le_refl _)
  have sl := own_sm_le g 15
  have ea : own_acc g n = own_acc g 15 := by have := own_acc_up hg (15 - n); rw [Nat.add_sub_cancel' hn] at this; exact this.symm
  have es : (Int32.ofNat (own_sm g 15)).toInt64.toInt = (own_sm g 15 : Int) := by rw [Int32.toInt_toInt64, W.i32 (by omega)]
  have er : rel.toInt64.toInt = ((rel.toInt.toNat : Nat) : Int) := by rw [Int32.toInt_toInt64]; omega
  have := own_avg hU hT pa a1 a2 (by omega) (rel := rel.toInt.toNat) (by omega) (by omega) er es
  obtain ⟨⟨q1, q2, q3, q4⟩, q5, q6⟩ := this
  have em : own_map g n rel = FP.ddiv (own_acc g 15) (FP.i2d rel) := by rw [own_map, if_neg h0, ea]
  rw [ea, em, i2d_w, i2d_w]
  have q5' : FP.dcmp (FP.dsub (FP.dmul (FP.dmul (FP.ddiv (own_acc g 15) (FP.l2d rel.toInt64)) (FP.l2d rel.toInt64)) 4689934550124462080) (FP.l2d (Int32.ofNat (own_sm g 15)).toInt64)) 4562254508917369340 = some .lt := q5
  have q6' : FP.dcmp (FP.dneg (FP.dsub (FP.dmul (FP.dmul (FP.ddiv (own_acc g 15) (FP.l2d rel.toInt64)) (FP.l2d rel.toInt64)) 4689934550124462080) (FP.l2d (Int32.ofNat (own_sm g 15)).toInt64))) 4562254508917369340 = some .lt := q6 _ (FP.val64_dneg _)
  exact ⟨⟨own_no q1, own_no q2, own_no q3, own_no q4⟩, by rw [q5']; decide, by rw [q6']; decide⟩
def Q1 (n : Nat) (v : Option Value) (h : Heap) (L : List Loc) : Prop := v = some (.int 1) ∧ W.Frw [] n L
set_option maxRecDepth 65536 in
set_option maxHeartbeats 40000000 in
theorem rm1 (l : Launch) (Z : State) (a0 : Array Value) (hw : ∀ d ∈ tables_1, d.before a0 Z = true) (bits sz jd : Int32) (va p0 p1 p2 p3 p4 p5 : Addr) (kv : ClassId) (h0 : Heap) (S : En Z h0 va p0 p1 p2 p3 p4 p5 kv)  : W.MetN l Z x code maxLocals (ret) tables_1 room_1 #[.int bits, .int sz, .int jd]  h0 (Q1 h0.size) := by
  refine W.MetN.mk (ls0 := #[.val (.int bits), .val (.int sz), .val (.int jd), .unset, .unset, .unset, .unset, .unset, .unset, .unset, .unset, .unset, .unset, .unset, .unset, .unset, .unset]) [] (plainFor_of_name pn_com_example_broker_broker_eval_RunMeasuresOfPinLaw) (fun m => by first | (simp [entryFrame, mkF, argsToLocals, Value.category, maxLocals]; done) | rfl) ?_
  intro p e s m below meth c s₁ hml hret hnm hlk P0
  have hml : c.maxLocals = 17 := hml
  show W.Go p.tables e below _ (s₁.setTop (mkF m 0 #[.val (.int bits), .val (.int sz), .val (.int jd), .unset, .unset, .unset, .unset, .unset, .unset, .unset, .unset, .unset, .unset, .unset, .unset, .unset, .unset] []))
  refine W.g_iloadN (pc1 := 1) P0.q at_0 rfl rfl ?_
  refine W.g_bipush (pc1 := 3) (v := (15 : Int32)) P0.q at_1 (by decide) rfl ?_
  refine W.g_iand (pc1 := 4) P0.q at_3 rfl ?_
  obtain ⟨n, hn, en⟩ := own_n15 sz
  rw [en]
  refine W.g_istoreN (pc1 := 5) (ls2 := #[.val (.int bits), .val (.int sz), .val (.int jd), .val (.int (Int32.ofNat n)), .unset, .unset, .unset, .unset, .unset, .unset, .unset, .unset, .unset, .unset, .unset, .unset, .unset]) P0.q at_4 rfl rfl ?_
  refine W.g_iloadN (pc1 := 6) P0.q at_5 rfl rfl ?_
  refine P0.newP (pc1 := 8) (cap := 16) (wd hw (k := 0) rfl) (W.nn32 (by omega)) (by rw [W.n32 (by omega)]; omega) (by decide) (by decide) (by decide) at_6 rfl ?_
  intro T139 h139 x139 k139 g139 P139 E139 V139
  have R0 : W.Arg Z h139 x139 k139 .boolean n (fun _ => 0) := W.Arg.new (by omega) V139
  obtain ⟨g, eg⟩ : ∃ g, g = own_g bits n := ⟨_, rfl⟩
  have hg : ∀ j, n ≤ j → g j = false := fun j hj => by rw [eg]; exact own_gN hj
  refine W.g_astore (pc1 := 10) (ls2 := #[.val (.int bits), .val (.int sz), .val (.int jd), .val (.int (Int32.ofNat n)), .val (.ref x139), .unset, .unset, .unset, .unset, .unset, .unset, .unset, .unset, .unset, .unset, .unset, .unset]) P139.q at_8 rfl rfl rfl ?_
  refine W.g_iconst (pc1 := 11) (v := (0 : Int32)) P139.q at_10 (by decide) rfl ?_
  refine W.g_istore (pc1 := 13) (ls2 := #[.val (.int bits), .val (.int sz), .val (.int jd), .val (.int (Int32.ofNat n)), .val (.ref x139), .val (.int (0 : Int32)), .unset, .unset, .unset, .unset, .unset, .unset, .unset, .unset, .unset, .unset, .unset]) P139.q at_11 rfl rfl ?_
  refine W.g_iconst (pc1 := 14) (v := (0 : Int32)) P139.q at_13 (by decide) rfl ?_
  refine W.g_istore (pc1 := 16) (ls2 := #[.val (.int bits), .val (.int sz), .val (.int jd), .val (.int (Int32.ofNat n)), .val (.ref x139), .val (.int (0 : Int32)), .val (.int (0 : Int32)), .unset, .unset, .unset, .unset, .unset, .unset, .unset, .unset, .unset, .unset]) P139.q at_14 rfl rfl ?_
  have K15 : ∀ (T1 : State) (L1 : List Loc) (h1 : Heap) (f : Nat → Int32), W.Pos p l e room_1 s m #[.int bits, .int sz, .int jd] below meth c code Z [] [] h0 x.cls s.vm T1 L1 1 16 h1 → own_st g n 15 f → W.Arg Z h1 x139 k139 .boolean n f → W.Go p.tables e below (W.GN s (Q1 h0.size) room_1) (T1.setTop (mkF m 518 #[.val (.int bits), .val (.int sz), .val (.int jd), .val (.int (Int32.ofNat n)), .val (.ref x139), .val (.int (Int32.ofNat (own_cnt g 15))), .val (.int (Int32.ofNat (own_sm g 15))), .val (.int (Int32.ofNat (own_cnt g 5))), .val (.int (Int32.ofNat (own_cnt g 10))), .unset, .unset, .unset, .unset, .unset, .unset, .unset, .unset] [])) := by
    intro T1 L1 h1 f P1 hf R1
    have R2 : W.Arg Z h1 x139 k139 .boolean n (fun j => b01 (g j)) := R1.congr (fun j hj => by rw [hf j hj, if_pos (by omega)])
    refine W.g_iload (pc1 := 520) P1.q at_518 rfl rfl ?_
    refine W.g_istore (pc1 := 522) (ls2 := #[.val (.int bits), .val (.int sz), .val (.int jd), .val (.int (Int32.ofNat n)), .val (.ref x139), .val (.int (Int32.ofNat (own_cnt g 15))), .val (.int (Int32.ofNat (own_sm g 15))), .val (.int (Int32.ofNat (own_cnt g 5))), .val (.int (Int32.ofNat (own_cnt g 10))), .val (.int (Int32.ofNat (own_cnt g 15))), .unset, .unset, .unset, .unset, .unset, .unset, .unset]) P1.q at_520 rfl rfl ?_
    refine W.g_iloadN (pc1 := 523) P1.q at_522 rfl rfl ?_
    refine W.g_iload (pc1 := 525) P1.q at_523 rfl rfl ?_
    refine P1.callS (pc1 := 528) (wd hw (k := 1) rfl) (wd hw (k := 2) rfl) (wd hw (k := 3) rfl) (wd hw (k := 4) rfl) (by decide) (W.MetN.pay (W := 0) (c_max l Z a0 hw jd (Int32.ofNat (own_cnt g 15)) h1) P1 (wd hw (k := 4) rfl) (wd hw (k := 3) rfl) (by decide) (by decide)) (argsL := [(.int jd), (.int (Int32.ofNat (own_cnt g 15)))]) (st0 := []) (lenOf pd_II_R_I rfl) rfl rfl (Nat.le_of_eq rfl) (by rw [hml]; rfl) (by decide) (by decide) (W.Pure.ok P1.chv) at_525 rfl ?_
    intro v140 T140 h140 L140 q140 P140
    obtain ⟨rfl, rfl, rfl⟩ := q140
    show W.Go p.tables e below _ (T140.setTop (mkF m 528 #[.val (.int bits), .val (.int sz), .val (.int jd), .val (.int (Int32.ofNat n)), .val (.ref x139), .val (.int (Int32.ofNat (own_cnt g 15))), .val (.int (Int32.ofNat (own_sm g 15))), .val (.int (Int32.ofNat (own_cnt g 5))), .val (.int (Int32.ofNat (own_cnt g 10))), .val (.int (Int32.ofNat (own_cnt g 15))), .unset, .unset, .unset, .unset, .unset, .unset, .unset] [(.int (own_max jd (Int32.ofNat (own_cnt g 15))))]))
    have hrl := own_maxI jd (Int32.ofNat (own_cnt g 15))
    have hcl := own_cnt_le g 15
    rw [W.i32 (by omega)] at hrl
    generalize own_max jd (Int32.ofNat (own_cnt g 15)) = rel at hrl ⊢
    show W.Go p.tables e below _ (T140.setTop (mkF m 528 #[.val (.int bits), .val (.int sz), .val (.int jd), .val (.int (Int32.ofNat n)), .val (.ref x139), .val (.int (Int32.ofNat (own_cnt g 15))), .val (.int (Int32.ofNat (own_sm g 15))), .val (.int (Int32.ofNat (own_cnt g 5))), .val (.int (Int32.ofNat (own_cnt g 10))), .val (.int (Int32.ofNat (own_cnt g 15))), .unset, .unset, .unset, .unset, .unset, .unset, .unset] [(.int rel)]))
    refine W.g_istore (pc1 := 530) (ls2 := #[.val (.int bits), .val (.int sz), .val (.int jd), .val (.int (Int32.ofNat n)), .val (.ref x139), .val (.int (Int32.ofNat (own_cnt g 15))), .val (.int (Int32.ofNat (own_sm g 15))), .val (.int (Int32.ofNat (own_cnt g 5))), .val (.int (Int32.ofNat (own_cnt g 10))), .val (.int (Int32.ofNat (own_cnt g 15))), .val (.int rel), .unset, .unset, .unset, .unset, .unset, .unset]) P140.q at_528 rfl rfl ?_
    refine W.g_aload (pc1 := 532) P140.q at_530 rfl rfl rfl ?_
    refine W.g_iload (pc1 := 534) P140.q at_532 rfl rfl ?_
    have hcn : own_cnt g 15 = own_cnt g n := own_cnt_up hg hn
    refine P140.callS (pc1 := 537) (wd hw (k := 5) rfl) (wd hw (k := 6) rfl) (wd hw (k := 7) rfl) (wd hw (k := 8) rfl) (by decide) (W.MetN.pay (W := 0) (c_of l Z a0 hw x139 k139 n hn g hg rel (by rw [Int32.lt_iff_toInt_lt, W.i32 (by omega), ← hcn]; omega) (fun h => (own_end hn hg hrl h).1.1) va p0 p1 p2 p3 p4 p5 kv h1 (S.ext P140.ext0) R2) P140 (wd hw (k := 8) rfl) (wd hw (k := 7) rfl) (by decide) (by decide)) (argsL := [(.ref x139), (.int rel)]) (st0 := []) (lenOf pd_AZI_R_Lcom_example_broker_broker_eval_RunMeasures rfl) rfl rfl (Nat.le_of_eq rfl) (by rw [hml]; rfl) (by decide) (by decide) (fun _ _ _ q => by obtain ⟨_, _, _, _, q2, q3, _⟩ := q; exact ⟨q2.up P140.sz all0, CHr.ext q3 P140.chv⟩) at_534 rfl ?_
    intro v141 T141 h141 L141 q141 P141
    obtain ⟨y141, d141, k141, rfl, f141, E141, A141, F141, V141⟩ := q141
    show W.Go p.tables e below _ (T141.setTop (mkF m 537 #[.val (.int bits), .val (.int sz), .val (.int jd), .val (.int (Int32.ofNat n)), .val (.ref x139), .val (.int (Int32.ofNat (own_cnt g 15))), .val (.int (Int32.ofNat (own_sm g 15))), .val (.int (Int32.ofNat (own_cnt g 5))), .val (.int (Int32.ofNat (own_cnt g 10))), .val (.int (Int32.ofNat (own_cnt g 15))), .val (.int rel), .unset, .unset, .unset, .unset, .unset, .unset] [(.ref y141)]))
    have SE := S.ext P141.ext0
    refine W.g_astore (pc1 := 539) (ls2 := #[.val (.int bits), .val (.int sz), .val (.int jd), .val (.int (Int32.ofNat n)), .val (.ref x139), .val (.int (Int32.ofNat (own_cnt g 15))), .val (.int (Int32.ofNat (own_sm g 15))), .val (.int (Int32.ofNat (own_cnt g 5))), .val (.int (Int32.ofNat (own_cnt g 10))), .val (.int (Int32.ofNat (own_cnt g 15))), .val (.int rel), .val (.ref y141), .unset, .unset, .unset, .unset, .unset]) P141.q at_537 rfl rfl rfl ?_
    refine W.g_aload (pc1 := 541) P141.q at_539 rfl rfl rfl ?_
    refine P141.getS (pc1 := 544) (wd hw (k := 62) rfl) Via.refl (SE.2.2.2.1) at_541 rfl ?_
    intro T142 P142
    refine P142.callV (pc1 := 547) A141 (wd hw (k := 63) rfl) (wd hw (k := 64) rfl) (wd hw (k := 66) rfl) (wd hw (k := 65) rfl) (notFace_of_selects (args := #[]) (mvT P142.hz (wd hw (k := 66) rfl))) (by decide) (W.MetN.pay (W := 0) (c_value l Z a0 hw y141 d141 p0 k141 _ 0 (own_map g n rel) h141 F141 V141 (SE.2.2.2.2.2.2.2.2.2.1) (SE.2.2.2.2.2.2.2.2.2.2.2.2.2.2.2.2.2.2.2.2.2.1) (by decide) (by decide) rfl) P142 (wd hw (k := 67) rfl) (wd hw (k := 7) rfl) (by decide) (by decide)) (argsL := [(.ref p0)]) (st0 := []) (lenOf pd_Lcom_example_broker_broker_eval_RunMeasure_R_D rfl) rfl rfl (Nat.le_of_eq rfl) (by rw [hml]; rfl) (by decide) (by decide) (W.Pure.ok P142.chv) at_544 rfl ?_
    intro v143 T143 h143 L143 q143 P143
    obtain ⟨rfl, rfl, rfl⟩ := q143
    show W.Go p.tables e below _ (T143.setTop (mkF m 547 #[.val (.int bits), .val (.int sz), .val (.int jd), .val (.int (Int32.ofNat n)), .val (.ref x139), .val (.int (Int32.ofNat (own_cnt g 15))), .val (.int (Int32.ofNat (own_sm g 15))), .val (.int (Int32.ofNat (own_cnt g 5))), .val (.int (Int32.ofNat (own_cnt g 10))), .val (.int (Int32.ofNat (own_cnt g 15))), .val (.int rel), .val (.ref y141), .unset, .unset, .unset, .unset, .unset] [(.double (own_map g n rel))]))
    refine W.g_dstore (pc1 := 549) (ls2 := #[.val (.int bits), .val (.int sz), .val (.int jd), .val (.int (Int32.ofNat n)), .val (.ref x139), .val (.int (Int32.ofNat (own_cnt g 15))), .val (.int (Int32.ofNat (own_sm g 15))), .val (.int (Int32.ofNat (own_cnt g 5))), .val (.int (Int32.ofNat (own_cnt g 10))), .val (.int (Int32.ofNat (own_cnt g 15))), .val (.int rel), .val (.ref y141), .val (.double (own_map g n rel)), .second, .unset, .unset, .unset]) P143.q at_547 rfl rfl ?_
    refine W.g_iload (pc1 := 551) P143.q at_549 rfl rfl ?_
    have JE : ∀ (T9 : State) (L9 : List Loc) (zm : UInt64) (u15 u16 : Slot), W.Pos p l e room_1 s m #[.int bits, .int sz, .int jd] below meth c code Z [] [] h0 x.cls s.vm T9 L9 6 56 h141 → W.Go p.tables e below (W.GN s (Q1 h0.size) room_1) (T9.setTop (mkF m 613 #[.val (.int bits), .val (.int sz), .val (.int jd), .val (.int (Int32.ofNat n)), .val (.ref x139), .val (.int (Int32.ofNat (own_cnt g 15))), .val (.int (Int32.ofNat (own_sm g 15))), .val (.int (Int32.ofNat (own_cnt g 5))), .val (.int (Int32.ofNat (own_cnt g 10))), .val (.int (Int32.ofNat (own_cnt g 15))), .val (.int rel), .val (.ref y141), .val (.double zm), .second, .val (.int (1 : Int32)), u15, u16] [])) := by
      intro T9 L9 zm u15 u16 P9
      refine W.g_iload (pc1 := 615) P9.q at_613 rfl rfl ?_
      refine W.g_ifN (pc2 := 618) P9.q at_615 rfl (by decide) ?_
      refine W.g_aload (pc1 := 620) P9.q at_618 rfl rfl rfl ?_
      refine P9.getS (pc1 := 623) (wd hw (k := 70) rfl) Via.refl (SE.2.2.2.2.1) at_620 rfl ?_
      intro T144 P144
      refine P144.callV (pc1 := 626) A141 (wd hw (k := 63) rfl) (wd hw (k := 64) rfl) (wd hw (k := 66) rfl) (wd hw (k := 65) rfl) (notFace_of_selects (args := #[]) (mvT P144.hz (wd hw (k := 66) rfl))) (by decide) (W.MetN.pay (W := 0) (c_value l Z a0 hw y141 d141 p1 k141 _ 1 (FP.ddiv (FP.i2d (Int32.ofNat (own_cnt g 5))) 4617315517961601024) h141 F141 V141 (SE.2.2.2.2.2.2.2.2.2.2.1) (SE.2.2.2.2.2.2.2.2.2.2.2.2.2.2.2.2.2.2.2.2.2.2.1) (by decide) (by decide) rfl) P144 (wd hw (k := 67) rfl) (wd hw (k := 7) rfl) (by decide) (by decide)) (argsL := [(.ref p1)]) (st0 := []) (lenOf pd_Lcom_example_broker_broker_eval_RunMeasure_R_D rfl) rfl rfl (Nat.le_of_eq rfl) (by rw [hml]; rfl) (by decide) (by decide) (W.Pure.ok P144.chv) at_623 rfl ?_
      intro v145 T145 h145 L145 q145 P145
      obtain ⟨rfl, rfl, rfl⟩ := q145
      show W.Go p.tables e below _ (T145.setTop (mkF m 626 #[.val (.int bits), .val (.int sz), .val (.int jd), .val (.int (Int32.ofNat n)), .val (.ref x139), .val (.int (Int32.ofNat (own_cnt g 15))), .val (.int (Int32.ofNat (own_sm g 15))), .val (.int (Int32.ofNat (own_cnt g 5))), .val (.int (Int32.ofNat (own_cnt g 10))), .val (.int (Int32.ofNat (own_cnt g 15))), .val (.int rel), .val (.ref y141), .val (.double zm), .second, .val (.int (1 : Int32)), u15, u16] [(.double (FP.ddiv (FP.i2d (Int32.ofNat (own_cnt g 5))) 4617315517961601024))]))
      refine W.g_iload (pc1 := 628) P145.q at_626 rfl rfl ?_
      refine W.g_i2d (pc1 := 629) P145.q at_628 rfl ?_
      refine P145.ldc2D (pc1 := 632) (wd hw (k := 71) rfl) at_629 rfl ?_
      refine W.g_ddiv (pc1 := 633) P145.q at_632 (own_nanC (by have := own_cnt_le g 5; omega) (by decide) own_z5 (by have := own_cnt_le g 5; omega)) rfl ?_
      show W.Go p.tables e below _ (T145.setTop (mkF m 633 #[.val (.int bits), .val (.int sz), .val (.int jd), .val (.int (Int32.ofNat n)), .val (.ref x139), .val (.int (Int32.ofNat (own_cnt g 15))), .val (.int (Int32.ofNat (own_sm g 15))), .val (.int (Int32.ofNat (own_cnt g 5))), .val (.int (Int32.ofNat (own_cnt g 10))), .val (.int (Int32.ofNat (own_cnt g 15))), .val (.int rel), .val (.ref y141), .val (.double zm), .second, .val (.int (1 : Int32)), u15, u16] [(.double (FP.ddiv (FP.i2d (Int32.ofNat (own_cnt g 5))) 4617315517961601024)), (.double (FP.ddiv (FP.i2d (Int32.ofNat (own_cnt g 5))) 4617315517961601024))]))
      refine W.g_dcmp (pc1 := 634) P145.q at_633 rfl ?_
      rw [own_cself (own_nanC (by have := own_cnt_le g 5; omega) (by decide) own_z5 (by have := own_cnt_le g 5; omega))]
      show W.Go p.tables e below _ (T145.setTop (mkF m 634 #[.val (.int bits), .val (.int sz), .val (.int jd), .val (.int (Int32.ofNat n)), .val (.ref x139), .val (.int (Int32.ofNat (own_cnt g 15))), .val (.int (Int32.ofNat (own_sm g 15))), .val (.int (Int32.ofNat (own_cnt g 5))), .val (.int (Int32.ofNat (own_cnt g 10))), .val (.int (Int32.ofNat (own_cnt g 15))), .val (.int rel), .val (.ref y141), .val (.double zm), .second, .val (.int (1 : Int32)), u15, u16] [(.int (0 : Int32))]))
      refine W.g_ifN (pc2 := 637) P145.q at_634 rfl (by decide) ?_
      refine W.g_aload (pc1 := 639) P145.q at_637 rfl rfl rfl ?_
      refine P145.getS (pc1 := 642) (wd hw (k := 72) rfl) Via.refl (SE.2.2.2.2.2.1) at_639 rfl ?_
      intro T146 P146
      refine P146.callV (pc1 := 645) A141 (wd hw (k := 63) rfl) (wd hw (k := 64) rfl) (wd hw (k := 66) rfl) (wd hw (k := 65) rfl) (notFace_of_selects (args := #[]) (mvT P146.hz (wd hw (k := 66) rfl))) (by decide) (W.MetN.pay (W := 0) (c_value l Z a0 hw y141 d141 p2 k141 _ 2 (FP.ddiv (FP.i2d (Int32.ofNat (own_cnt g 10))) 4621819117588971520) h141 F141 V141 (SE.2.2.2.2.2.2.2.2.2.2.2.1) (SE.2.2.2.2.2.2.2.2.2.2.2.2.2.2.2.2.2.2.2.2.2.2.2.1) (by decide) (by decide) rfl) P146 (wd hw (k := 67) rfl) (wd hw (k := 7) rfl) (by decide) (by decide)) (argsL := [(.ref p2)]) (st0 := []) (lenOf pd_Lcom_example_broker_broker_eval_RunMeasure_R_D rfl) rfl rfl (Nat.le_of_eq rfl) (by rw [hml]; rfl) (by decide) (by decide) (W.Pure.ok P146.chv) at_642 rfl ?_
      intro v147 T147 h147 L147 q147 P147
      obtain ⟨rfl, rfl, rfl⟩ := q147
      show W.Go p.tables e below _ (T147.setTop (mkF m 645 #[.val (.int bits), .val (.int sz), .val (.int jd), .val (.int (Int32.ofNat n)), .val (.ref x139), .val (.int (Int32.ofNat (own_cnt g 15))), .val (.int (Int32.ofNat (own_sm g 15))), .val (.int (Int32.ofNat (own_cnt g 5))), .val (.int (Int32.ofNat (own_cnt g 10))), .val (.int (Int32.ofNat (own_cnt g 15))), .val (.int rel), .val (.ref y141), .val (.double zm), .second, .val (.int (1 : Int32)), u15, u16] [(.double (FP.ddiv (FP.i2d (Int32.ofNat (own_cnt g 10))) 4621819117588971520))]))
      refine W.g_iload (pc1 := 647) P147.q at_645 rfl rfl ?_
      refine W.g_i2d (pc1 := 648) P147.q at_647 rfl ?_
      refine P147.ldc2D (pc1 := 651) (wd hw (k := 73) rfl) at_648 rfl ?_
      refine W.g_ddiv (pc1 := 652) P147.q at_651 (own_nanC (by have := own_cnt_le g 10; omega) (by decide) own_z10 (by have := own_cnt_le g 10; omega)) rfl ?_
      show W.Go p.tables e below _ (T147.setTop (mkF m 652 #[.val (.int bits), .val (.int sz), .val (.int jd), .val (.int (Int32.ofNat n)), .val (.ref x139), .val (.int (Int32.ofNat (own_cnt g 15))), .val (.int (Int32.ofNat (own_sm g 15))), .val (.int (Int32.ofNat (own_cnt g 5))), .val (.int (Int32.ofNat (own_cnt g 10))), .val (.int (Int32.ofNat (own_cnt g 15))), .val (.int rel), .val (.ref y141), .val (.double zm), .second, .val (.int (1 : Int32)), u15, u16] [(.double (FP.ddiv (FP.i2d (Int32.ofNat (own_cnt g 10))) 4621819117588971520)), (.double (FP.ddiv (FP.i2d (Int32.ofNat (own_cnt g 10))) 4621819117588971520))]))
      refine W.g_dcmp (pc1 := 653) P147.q at_652 rfl ?_
      rw [own_cself (own_nanC (by have := own_cnt_le g 10; omega) (by decide) own_z10 (by have := own_cnt_le g 10; omega))]
      show W.Go p.tables e below _ (T147.setTop (mkF m 653 #[.val (.int bits), .val (.int sz), .val (.int jd), .val (.int (Int32.ofNat n)), .val (.ref x139), .val (.int (Int32.ofNat (own_cnt g 15))), .val (.int (Int32.ofNat (own_sm g 15))), .val (.int (Int32.ofNat (own_cnt g 5))), .val (.int (Int32.ofNat (own_cnt g 10))), .val (.int (Int32.ofNat (own_cnt g 15))), .val (.int rel), .val (.ref y141), .val (.double zm), .second, .val (.int (1 : Int32)), u15, u16] [(.int (0 : Int32))]))
      refine W.g_ifN (pc2 := 656) P147.q at_653 rfl (by decide) ?_
      refine W.g_aload (pc1 := 658) P147.q at_656 rfl rfl rfl ?_
      refine P147.getS (pc1 := 661) (wd hw (k := 74) rfl) Via.refl (SE.2.2.2.2.2.2.1) at_658 rfl ?_
      intro T148 P148
      refine P148.callV (pc1 := 664) A141 (wd hw (k := 63) rfl) (wd hw (k := 64) rfl) (wd hw (k := 66) rfl) (wd hw (k := 65) rfl) (notFace_of_selects (args := #[]) (mvT P148.hz (wd hw (k := 66) rfl))) (by decide) (W.MetN.pay (W := 0) (c_value l Z a0 hw y141 d141 p3 k141 _ 3 (FP.ddiv (FP.i2d (Int32.ofNat (own_cnt g 15))) 4624633867356078080) h141 F141 V141 (SE.2.2.2.2.2.2.2.2.2.2.2.2.1) (SE.2.2.2.2.2.2.2.2.2.2.2.2.2.2.2.2.2.2.2.2.2.2.2.2.1) (by decide) (by decide) rfl) P148 (wd hw (k := 67) rfl) (wd hw (k := 7) rfl) (by decide) (by decide)) (argsL := [(.ref p3)]) (st0 := []) (lenOf pd_Lcom_example_broker_broker_eval_RunMeasure_R_D rfl) rfl rfl (Nat.le_of_eq rfl) (by rw [hml]; rfl) (by decide) (by decide) (W.Pure.ok P148.chv) at_661 rfl ?_
      intro v149 T149 h149 L149 q149 P149
      obtain ⟨rfl, rfl, rfl⟩ := q149
      show W.Go p.tables e below _ (T149.setTop (mkF m 664 #[.val (.int bits), .val (.int sz), .val (.int jd), .val (.int (Int32.ofNat n)), .val (.ref x139), .val (.int (Int32.ofNat (own_cnt g 15))), .val (.int (Int32.ofNat (own_sm g 15))), .val (.int (Int32.ofNat (own_cnt g 5))), .val (.int (Int32.ofNat (own_cnt g 10))), .val (.int (Int32.ofNat (own_cnt g 15))), .val (.int rel), .val (.ref y141), .val (.double zm), .second, .val (.int (1 : Int32)), u15, u16] [(.double (FP.ddiv (FP.i2d (Int32.ofNat (own_cnt g 15))) 4624633867356078080))]))
      refine W.g_iload (pc1 := 666) P149.q at_664 rfl rfl ?_
      refine W.g_i2d (pc1 := 667) P149.q at_666 rfl ?_
      refine P149.ldc2D (pc1 := 670) (wd hw (k := 75) rfl) at_667 rfl ?_
      refine W.g_ddiv (pc1 := 671) P149.q at_670 (own_nanC (by have := own_cnt_le g 15; omega) (by decide) own_z15 (by have := own_cnt_le g 15; omega)) rfl ?_
      show W.Go p.tables e below _ (T149.setTop (mkF m 671 #[.val (.int bits), .val (.int sz), .val (.int jd), .val (.int (Int32.ofNat n)), .val (.ref x139), .val (.int (Int32.ofNat (own_cnt g 15))), .val (.int (Int32.ofNat (own_sm g 15))), .val (.int (Int32.ofNat (own_cnt g 5))), .val (.int (Int32.ofNat (own_cnt g 10))), .val (.int (Int32.ofNat (own_cnt g 15))), .val (.int rel), .val (.ref y141), .val (.double zm), .second, .val (.int (1 : Int32)), u15, u16] [(.double (FP.ddiv (FP.i2d (Int32.ofNat (own_cnt g 15))) 4624633867356078080)), (.double (FP.ddiv (FP.i2d (Int32.ofNat (own_cnt g 15))) 4624633867356078080))]))
      refine W.g_dcmp (pc1 := 672) P149.q at_671 rfl ?_
      rw [own_cself (own_nanC (by have := own_cnt_le g 15; omega) (by decide) own_z15 (by have := own_cnt_le g 15; omega))]
      show W.Go p.tables e below _ (T149.setTop (mkF m 672 #[.val (.int bits), .val (.int sz), .val (.int jd), .val (.int (Int32.ofNat n)), .val (.ref x139), .val (.int (Int32.ofNat (own_cnt g 15))), .val (.int (Int32.ofNat (own_sm g 15))), .val (.int (Int32.ofNat (own_cnt g 5))), .val (.int (Int32.ofNat (own_cnt g 10))), .val (.int (Int32.ofNat (own_cnt g 15))), .val (.int rel), .val (.ref y141), .val (.double zm), .second, .val (.int (1 : Int32)), u15, u16] [(.int (0 : Int32))]))
      refine W.g_ifN (pc2 := 675) P149.q at_672 rfl (by decide) ?_
      refine W.g_aload (pc1 := 677) P149.q at_675 rfl rfl rfl ?_
      refine P149.getS (pc1 := 680) (wd hw (k := 76) rfl) Via.refl (SE.2.2.2.2.2.2.2.1) at_677 rfl ?_
      intro T150 P150
      refine P150.callV (pc1 := 683) A141 (wd hw (k := 63) rfl) (wd hw (k := 64) rfl) (wd hw (k := 66) rfl) (wd hw (k := 65) rfl) (notFace_of_selects (args := #[]) (mvT P150.hz (wd hw (k := 66) rfl))) (by decide) (W.MetN.pay (W := 0) (c_value l Z a0 hw y141 d141 p4 k141 _ 4 (FP.ddiv (FP.i2d (Int32.ofNat (own_cnt g 20))) 4626322717216342016) h141 F141 V141 (SE.2.2.2.2.2.2.2.2.2.2.2.2.2.1) (SE.2.2.2.2.2.2.2.2.2.2.2.2.2.2.2.2.2.2.2.2.2.2.2.2.2.1) (by decide) (by decide) rfl) P150 (wd hw (k := 67) rfl) (wd hw (k := 7) rfl) (by decide) (by decide)) (argsL := [(.ref p4)]) (st0 := []) (lenOf pd_Lcom_example_broker_broker_eval_RunMeasure_R_D rfl) rfl rfl (Nat.le_of_eq rfl) (by rw [hml]; rfl) (by decide) (by decide) (W.Pure.ok P150.chv) at_680 rfl ?_
      intro v151 T151 h151 L151 q151 P151
      obtain ⟨rfl, rfl, rfl⟩ := q151
      show W.Go p.tables e below _ (T151.setTop (mkF m 683 #[.val (.int bits), .val (.int sz), .val (.int jd), .val (.int (Int32.ofNat n)), .val (.ref x139), .val (.int (Int32.ofNat (own_cnt g 15))), .val (.int (Int32.ofNat (own_sm g 15))), .val (.int (Int32.ofNat (own_cnt g 5))), .val (.int (Int32.ofNat (own_cnt g 10))), .val (.int (Int32.ofNat (own_cnt g 15))), .val (.int rel), .val (.ref y141), .val (.double zm), .second, .val (.int (1 : Int32)), u15, u16] [(.double (FP.ddiv (FP.i2d (Int32.ofNat (own_cnt g 20))) 4626322717216342016))]))
      refine W.g_iload (pc1 := 685) P151.q at_683 rfl rfl ?_
      refine W.g_i2d (pc1 := 686) P151.q at_685 rfl ?_
      refine P151.ldc2D (pc1 := 689) (wd hw (k := 77) rfl) at_686 rfl ?_
      rw [show own_cnt g 20 = own_cnt g 15 from (own_cnt_up hg (by omega)).trans hcn.symm]
      show W.Go p.tables e below _ (T151.setTop (mkF m 689 #[.val (.int bits), .val (.int sz), .val (.int jd), .val (.int (Int32.ofNat n)), .val (.ref x139), .val (.int (Int32.ofNat (own_cnt g 15))), .val (.int (Int32.ofNat (own_sm g 15))), .val (.int (Int32.ofNat (own_cnt g 5))), .val (.int (Int32.ofNat (own_cnt g 10))), .val (.int (Int32.ofNat (own_cnt g 15))), .val (.int rel), .val (.ref y141), .val (.double zm), .second, .val (.int (1 : Int32)), u15, u16] [(.double (4626322717216342016 : UInt64)), (.double (FP.i2d (Int32.ofNat (own_cnt g 15)))), (.double (FP.ddiv (FP.i2d (Int32.ofNat (own_cnt g 15))) 4626322717216342016))]))
      refine W.g_ddiv (pc1 := 690) P151.q at_689 (own_nanC (by have := own_cnt_le g 15; omega) (by decide) own_z20 (by have := own_cnt_le g 15; omega)) rfl ?_
      show W.Go p.tables e below _ (T151.setTop (mkF m 690 #[.val (.int bits), .val (.int sz), .val (.int jd), .val (.int (Int32.ofNat n)), .val (.ref x139), .val (.int (Int32.ofNat (own_cnt g 15))), .val (.int (Int32.ofNat (own_sm g 15))), .val (.int (Int32.ofNat (own_cnt g 5))), .val (.int (Int32.ofNat (own_cnt g 10))), .val (.int (Int32.ofNat (own_cnt g 15))), .val (.int rel), .val (.ref y141), .val (.double zm), .second, .val (.int (1 : Int32)), u15, u16] [(.double (FP.ddiv (FP.i2d (Int32.ofNat (own_cnt g 15))) 4626322717216342016)), (.double (FP.ddiv (FP.i2d (Int32.ofNat (own_cnt g 15))) 4626322717216342016))]))
      refine W.g_dcmp (pc1 := 691) P151.q at_690 rfl ?_
      rw [own_cself (own_nanC (by have := own_cnt_le g 15; omega) (by decide) own_z20 (by have := own_cnt_le g 15; omega))]
      show W.Go p.tables e below _ (T151.setTop (mkF m 691 #[.val (.int bits), .val (.int sz), .val (.int jd), .val (.int (Int32.ofNat n)), .val (.ref x139), .val (.int (Int32.ofNat (own_cnt g 15))), .val (.int (Int32.ofNat (own_sm g 15))), .val (.int (Int32.ofNat (own_cnt g 5))), .val (.int (Int32.ofNat (own_cnt g 10))), .val (.int (Int32.ofNat (own_cnt g 15))), .val (.int rel), .val (.ref y141), .val (.double zm), .second, .val (.int (1 : Int32)), u15, u16] [(.int (0 : Int32))]))
      refine W.g_ifN (pc2 := 694) P151.q at_691 rfl (by decide) ?_
      refine W.g_aload (pc1 := 696) P151.q at_694 rfl rfl rfl ?_
      refine P151.getS (pc1 := 699) (wd hw (k := 78) rfl) Via.refl (SE.2.2.2.2.2.2.2.2.1) at_696 rfl ?_
      intro T152 P152
      refine P152.callV (pc1 := 702) A141 (wd hw (k := 63) rfl) (wd hw (k := 64) rfl) (wd hw (k := 66) rfl) (wd hw (k := 65) rfl) (notFace_of_selects (args := #[]) (mvT P152.hz (wd hw (k := 66) rfl))) (by decide) (W.MetN.pay (W := 0) (c_value l Z a0 hw y141 d141 p5 k141 _ 5 (FP.ddiv (FP.i2d (Int32.ofNat (own_cnt g 30))) 4629137466983448576) h141 F141 V141 (SE.2.2.2.2.2.2.2.2.2.2.2.2.2.2.1) (SE.2.2.2.2.2.2.2.2.2.2.2.2.2.2.2.2.2.2.2.2.2.2.2.2.2.2) (by decide) (by decide) rfl) P152 (wd hw (k := 67) rfl) (wd hw (k := 7) rfl) (by decide) (by decide)) (argsL := [(.ref p5)]) (st0 := []) (lenOf pd_Lcom_example_broker_broker_eval_RunMeasure_R_D rfl) rfl rfl (Nat.le_of_eq rfl) (by rw [hml]; rfl) (by decide) (by decide) (W.Pure.ok P152.chv) at_699 rfl ?_
      intro v153 T153 h153 L153 q153 P153
      obtain ⟨rfl, rfl, rfl⟩ := q153
      show W.Go p.tables e below _ (T153.setTop (mkF m 702 #[.val (.int bits), .val (.int sz), .val (.int jd), .val (.int (Int32.ofNat n)), .val (.ref x139), .val (.int (Int32.ofNat (own_cnt g 15))), .val (.int (Int32.ofNat (own_sm g 15))), .val (.int (Int32.ofNat (own_cnt g 5))), .val (.int (Int32.ofNat (own_cnt g 10))), .val (.int (Int32.ofNat (own_cnt g 15))), .val (.int rel), .val (.ref y141), .val (.double zm), .second, .val (.int (1 : Int32)), u15, u16] [(.double (FP.ddiv (FP.i2d (Int32.ofNat (own_cnt g 30))) 4629137466983448576))]))
      refine W.g_iload (pc1 := 704) P153.q at_702 rfl rfl ?_
      refine W.g_i2d (pc1 := 705) P153.q at_704 rfl ?_
      refine P153.ldc2D (pc1 := 708) (wd hw (k := 79) rfl) at_705 rfl ?_
      rw [show own_cnt g 30 = own_cnt g 15 from (own_cnt_up hg (by omega)).trans hcn.symm]
      show W.Go p.tables e below _ (T153.setTop (mkF m 708 #[.val (.int bits), .val (.int sz), .val (.int jd), .val (.int (Int32.ofNat n)), .val (.ref x139), .val (.int (Int32.ofNat (own_cnt g 15))), .val (.int (Int32.ofNat (own_sm g 15))), .val (.int (Int32.ofNat (own_cnt g 5))), .val (.int (Int32.ofNat (own_cnt g 10))), .val (.int (Int32.ofNat (own_cnt g 15))), .val (.int rel), .val (.ref y141), .val (.double zm), .second, .val (.int (1 : Int32)), u15, u16] [(.double (4629137466983448576 : UInt64)), (.double (FP.i2d (Int32.ofNat (own_cnt g 15)))), (.double (FP.ddiv (FP.i2d (Int32.ofNat (own_cnt g 15))) 4629137466983448576))]))
      refine W.g_ddiv (pc1 := 709) P153.q at_708 (own_nanC (by have := own_cnt_le g 15; omega) (by decide) own_z30 (by have := own_cnt_le g 15; omega)) rfl ?_
      show W.Go p.tables e below _ (T153.setTop (mkF m 709 #[.val (.int bits), .val (.int sz), .val (.int jd), .val (.int (Int32.ofNat n)), .val (.ref x139), .val (.int (Int32.ofNat (own_cnt g 15))), .val (.int (Int32.ofNat (own_sm g 15))), .val (.int (Int32.ofNat (own_cnt g 5))), .val (.int (Int32.ofNat (own_cnt g 10))), .val (.int (Int32.ofNat (own_cnt g 15))), .val (.int rel), .val (.ref y141), .val (.double zm), .second, .val (.int (1 : Int32)), u15, u16] [(.double (FP.ddiv (FP.i2d (Int32.ofNat (own_cnt g 15))) 4629137466983448576)), (.double (FP.ddiv (FP.i2d (Int32.ofNat (own_cnt g 15))) 4629137466983448576))]))
      refine W.g_dcmp (pc1 := 710) P153.q at_709 rfl ?_
      rw [own_cself (own_nanC (by have := own_cnt_le g 15; omega) (by decide) own_z30 (by have := own_cnt_le g 15; omega))]
      show W.Go p.tables e below _ (T153.setTop (mkF m 710 #[.val (.int bits), .val (.int sz), .val (.int jd), .val (.int (Int32.ofNat n)), .val (.ref x139), .val (.int (Int32.ofNat (own_cnt g 15))), .val (.int (Int32.ofNat (own_sm g 15))), .val (.int (Int32.ofNat (own_cnt g 5))), .val (.int (Int32.ofNat (own_cnt g 10))), .val (.int (Int32.ofNat (own_cnt g 15))), .val (.int rel), .val (.ref y141), .val (.double zm), .second, .val (.int (1 : Int32)), u15, u16] [(.int (0 : Int32))]))
      refine W.g_ifN (pc2 := 713) P153.q at_710 rfl (by decide) ?_
      refine W.g_iconst (pc1 := 714) (v := (1 : Int32)) P153.q at_713 (by decide) rfl ?_
      refine W.g_goto (pc1 := 718) P153.q at_714 (by decide) rfl ?_
      exact P153.retVN hlk hret (Or.inl rfl) at_718 (by decide) (by decide) ⟨rfl, P153.fr⟩
    refine W.g_if (pc1 := 571) (pc2 := 554) P143.q at_551 (by decide) rfl rfl (fun (hr0 : ¬ rel = 0) => ?_) (fun (hr0 : ¬ (¬ rel = 0)) => ?_)
    · obtain ⟨⟨e1, e2, e3, e4⟩, e5, e6⟩ := own_end hn hg hrl hr0
      refine W.g_dload (pc1 := 573) P143.q at_571 rfl rfl ?_
      refine W.g_iload (pc1 := 575) P143.q at_573 rfl rfl ?_
      refine W.g_i2d (pc1 := 576) P143.q at_575 rfl ?_
      refine W.g_dmul (pc1 := 577) P143.q at_576 e2 rfl ?_
      refine P143.ldc2D (pc1 := 580) (wd hw (k := 68) rfl) at_577 rfl ?_
      refine W.g_dmul (pc1 := 581) P143.q at_580 e3 rfl ?_
      refine W.g_iload (pc1 := 583) P143.q at_581 rfl rfl ?_
      refine W.g_i2d (pc1 := 584) P143.q at_583 rfl ?_
      refine W.g_dsub (pc1 := 585) P143.q at_584 e4 rfl ?_
      refine W.g_dstore (pc1 := 587) (ls2 := #[.val (.int bits), .val (.int sz), .val (.int jd), .val (.int (Int32.ofNat n)), .val (.ref x139), .val (.int (Int32.ofNat (own_cnt g 15))), .val (.int (Int32.ofNat (own_sm g 15))), .val (.int (Int32.ofNat (own_cnt g 5))), .val (.int (Int32.ofNat (own_cnt g 10))), .val (.int (Int32.ofNat (own_cnt g 15))), .val (.int rel), .val (.ref y141), .val (.double (own_map g n rel)), .second, .unset, .val (.double (FP.dsub (FP.dmul (FP.dmul (own_map g n rel) (FP.i2d rel)) 4689934550124462080) (FP.i2d (Int32.ofNat (own_sm g 15))))), .second]) P143.q at_585 rfl rfl ?_
      refine W.g_dload (pc1 := 589) P143.q at_587 rfl rfl ?_
      refine P143.ldc2D (pc1 := 592) (wd hw (k := 69) rfl) at_589 rfl ?_
      refine W.g_dcmp (pc1 := 593) P143.q at_592 rfl ?_
      refine W.g_ifN (pc2 := 596) P143.q at_593 rfl (fun q => q e5) ?_
      refine W.g_dload (pc1 := 598) P143.q at_596 rfl rfl ?_
      refine W.g_dneg (pc1 := 599) P143.q at_598 rfl ?_
      refine P143.ldc2D (pc1 := 602) (wd hw (k := 69) rfl) at_599 rfl ?_
      refine W.g_dcmp (pc1 := 603) P143.q at_602 rfl ?_
      refine W.g_ifN (pc2 := 606) P143.q at_603 rfl (fun q => q e6) ?_
      refine W.g_iconst (pc1 := 607) (v := (1 : Int32)) P143.q at_606 (by decide) rfl ?_
      refine W.g_goto (pc1 := 611) P143.q at_607 (by decide) rfl ?_
      refine W.g_istore (pc1 := 613) (ls2 := #[.val (.int bits), .val (.int sz), .val (.int jd), .val (.int (Int32.ofNat n)), .val (.ref x139), .val (.int (Int32.ofNat (own_cnt g 15))), .val (.int (Int32.ofNat (own_sm g 15))), .val (.int (Int32.ofNat (own_cnt g 5))), .val (.int (Int32.ofNat (own_cnt g 10))), .val (.int (Int32.ofNat (own_cnt g 15))), .val (.int rel), .val (.ref y141), .val (.double (own_map g n rel)), .second, .val (.int (1 : Int32)), .val (.double (FP.dsub (FP.dmul (FP.dmul (own_map g n rel) (FP.i2d rel)) 4689934550124462080) (FP.i2d (Int32.ofNat (own_sm g 15))))), .second]) P143.q at_611 rfl rfl ?_
      exact JE _ _ _ _ _ P143
    · have hr0 : rel = 0 := Decidable.byContradiction hr0
      rw [show own_map g n rel = 0 from by rw [own_map, if_pos hr0]]
      show W.Go p.tables e below _ (T143.setTop (mkF m 554 #[.val (.int bits), .val (.int sz), .val (.int jd), .val (.int (Int32.ofNat n)), .val (.ref x139), .val (.int (Int32.ofNat (own_cnt g 15))), .val (.int (Int32.ofNat (own_sm g 15))), .val (.int (Int32.ofNat (own_cnt g 5))), .val (.int (Int32.ofNat (own_cnt g 10))), .val (.int (Int32.ofNat (own_cnt g 15))), .val (.int rel), .val (.ref y141), .val (.double (0 : UInt64)), .second, .unset, .unset, .unset] []))
      refine W.g_dload (pc1 := 556) P143.q at_554 rfl rfl ?_
      refine W.g_dconst0 (pc1 := 557) P143.q at_556 rfl ?_
      refine W.g_dcmp (pc1 := 558) P143.q at_557 rfl ?_
      rw [show cmpValue (FP.dcmp 0 0) .l = 0 from by decide +kernel]
      show W.Go p.tables e below _ (T143.setTop (mkF m 558 #[.val (.int bits), .val (.int sz), .val (.int jd), .val (.int (Int32.ofNat n)), .val (.ref x139), .val (.int (Int32.ofNat (own_cnt g 15))), .val (.int (Int32.ofNat (own_sm g 15))), .val (.int (Int32.ofNat (own_cnt g 5))), .val (.int (Int32.ofNat (own_cnt g 10))), .val (.int (Int32.ofNat (own_cnt g 15))), .val (.int rel), .val (.ref y141), .val (.double (0 : UInt64)), .second, .unset, .unset, .unset] [(.int (0 : Int32))]))
      refine W.g_ifN (pc2 := 561) P143.q at_558 rfl (by decide) ?_
      refine W.g_iconst (pc1 := 562) (v := (1 : Int32)) P143.q at_561 (by decide) rfl ?_
      refine W.g_goto (pc1 := 566) P143.q at_562 (by decide) rfl ?_
      refine W.g_istore (pc1 := 568) (ls2 := #[.val (.int bits), .val (.int sz), .val (.int jd), .val (.int (Int32.ofNat n)), .val (.ref x139), .val (.int (Int32.ofNat (own_cnt g 15))), .val (.int (Int32.ofNat (own_sm g 15))), .val (.int (Int32.ofNat (own_cnt g 5))), .val (.int (Int32.ofNat (own_cnt g 10))), .val (.int (Int32.ofNat (own_cnt g 15))), .val (.int rel), .val (.ref y141), .val (.double (0 : UInt64)), .second, .val (.int (1 : Int32)), .unset, .unset]) P143.q at_566 rfl rfl ?_
      refine W.g_goto (pc1 := 613) P143.q at_568 (by decide) rfl ?_
      exact JE _ _ _ _ _ P143
  have K14 : ∀ (T1 : State) (L1 : List Loc) (h1 : Heap) (f : Nat → Int32), W.Pos p l e room_1 s m #[.int bits, .int sz, .int jd] below meth c code Z [] [] h0 x.cls s.vm T1 L1 1 16 h1 → own_st g n 14 f → W.Arg Z h1 x139 k139 .boolean n f → W.Go p.tables e below (W.GN s (Q1 h0.size) room_1) (T1.setTop (mkF m 483 #[.val (.int bits), .val (.int sz), .val (.int jd), .val (.int (Int32.ofNat n)), .val (.ref x139), .val (.int (Int32.ofNat (own_cnt g 14))), .val (.int (Int32.ofNat (own_sm g 14))), .val (.int (Int32.ofNat (own_cnt g 5))), .val (.int (Int32.ofNat (own_cnt g 10))), .unset, .unset, .unset, .unset, .unset, .unset, .unset, .unset] [])) := by
    intro T1 L1 h1 f P1 hf R1
    refine W.g_iloadN (pc1 := 484) P1.q at_483 rfl rfl ?_
    refine W.g_bipush (pc1 := 486) (v := (14 : Int32)) P1.q at_484 (by decide) rfl ?_
    refine W.g_cmp (pc1 := 518) (pc2 := 489) P1.q at_486 (by decide) rfl rfl (fun (ha : ¬ (14 : Int32) < (Int32.ofNat n)) => ?_) (fun (ha : ¬ (¬ (14 : Int32) < (Int32.ofNat n))) => ?_)
    · have hgk : g 14 = false := by rw [eg]; exact own_gN (Nat.le_of_not_lt (fun q => ha ((W.lt32 (i := 14) (by decide) (by omega)).mpr q)))
      have e1 : own_cnt g 15 = own_cnt g 14 := own_cntN hgk
      have e2 : own_sm g 15 = own_sm g 14 := own_smN hgk
      have Kn := K15 T1 _ h1 f P1 (own_stN hf hgk) R1
      rw [e1, e2] at Kn
      exact Kn
    · refine W.g_iloadN (pc1 := 490) P1.q at_489 rfl rfl ?_
      refine W.g_bipush (pc1 := 492) (v := (14 : Int32)) P1.q at_490 (by decide) rfl ?_
      refine W.g_ishr (pc1 := 493) P1.q at_492 rfl ?_
      refine W.g_iconst (pc1 := 494) (v := (1 : Int32)) P1.q at_493 (by decide) rfl ?_
      refine W.g_iand (pc1 := 495) P1.q at_494 rfl ?_
      refine W.g_if (pc1 := 518) (pc2 := 498) P1.q at_495 (by decide) rfl rfl (fun (hb : ((bits >>> ((14 : Int32) &&& 31)) &&& (1 : Int32)) = 0) => ?_) (fun (hb : ¬ (((bits >>> ((14 : Int32) &&& 31)) &&& (1 : Int32)) = 0)) => ?_)
      · have hgk : g 14 = false := by rw [eg]; exact own_g0 hb
        have e1 : own_cnt g 15 = own_cnt g 14 := own_cntN hgk
        have e2 : own_sm g 15 = own_sm g 14 := own_smN hgk
        have Kn := K15 T1 _ h1 f P1 (own_stN hf hgk) R1
        rw [e1, e2] at Kn
        exact Kn
      · have hgk : g 14 = true := by rw [eg]; exact own_gY ((W.lt32 (i := 14) (by decide) (by omega)).mp (Decidable.byContradiction ha)) hb
        refine W.g_aload (pc1 := 500) P1.q at_498 rfl rfl rfl ?_
        refine W.g_bipush (pc1 := 502) (v := (14 : Int32)) P1.q at_500 (by decide) rfl ?_
        refine W.g_iconst (pc1 := 503) (v := (1 : Int32)) P1.q at_502 (by decide) rfl ?_
        show W.Go p.tables e below _ (T1.setTop (mkF m 503 #[.val (.int bits), .val (.int sz), .val (.int jd), .val (.int (Int32.ofNat n)), .val (.ref x139), .val (.int (Int32.ofNat (own_cnt g 14))), .val (.int (Int32.ofNat (own_sm g 14))), .val (.int (Int32.ofNat (own_cnt g 5))), .val (.int (Int32.ofNat (own_cnt g 10))), .unset, .unset, .unset, .unset, .unset, .unset, .unset, .unset] [(.int (1 : Int32)), (.int (Int32.ofNat 14)), (.ref x139)]))
        refine P1.stZg (pc1 := 504) R1 (i := 14) ((W.lt32 (i := 14) (by decide) (by omega)).mp (Decidable.byContradiction ha)) (Or.inr (Nat.le_of_eq g139.symm)) W.safe0 at_503 rfl ?_
        intro T154 h154 P154 W154 R154
        refine W.g_iinc (pc1 := 507) (ls2 := #[.val (.int bits), .val (.int sz), .val (.int jd), .val (.int (Int32.ofNat n)), .val (.ref x139), .val (.int ((Int32.ofNat (own_cnt g 14)) + Int32.ofInt 1)), .val (.int (Int32.ofNat (own_sm g 14))), .val (.int (Int32.ofNat (own_cnt g 5))), .val (.int (Int32.ofNat (own_cnt g 10))), .unset, .unset, .unset, .unset, .unset, .unset, .unset, .unset]) P154.q at_504 rfl rfl rfl ?_
        rw [W.succ32]
        show W.Go p.tables e below _ (T154.setTop (mkF m 507 #[.val (.int bits), .val (.int sz), .val (.int jd), .val (.int (Int32.ofNat n)), .val (.ref x139), .val (.int (Int32.ofNat (own_cnt g 14 + 1))), .val (.int (Int32.ofNat (own_sm g 14))), .val (.int (Int32.ofNat (own_cnt g 5))), .val (.int (Int32.ofNat (own_cnt g 10))), .unset, .unset, .unset, .unset, .unset, .unset, .unset, .unset] []))
        refine W.g_iload (pc1 := 509) P154.q at_507 rfl rfl ?_
        refine W.g_iload (pc1 := 511) P154.q at_509 rfl rfl ?_
        refine W.g_sipush (pc1 := 514) (v := (24024 : Int32)) P154.q at_511 (by decide) rfl ?_
        refine W.g_imul (pc1 := 515) P154.q at_514 rfl ?_
        refine W.g_iadd (pc1 := 516) P154.q at_515 rfl ?_
        rw [own_smY hgk (by decide), ← own_cntY hgk]
        show W.Go p.tables e below _ (T154.setTop (mkF m 516 #[.val (.int bits), .val (.int sz), .val (.int jd), .val (.int (Int32.ofNat n)), .val (.ref x139), .val (.int (Int32.ofNat (own_cnt g 15))), .val (.int (Int32.ofNat (own_sm g 14))), .val (.int (Int32.ofNat (own_cnt g 5))), .val (.int (Int32.ofNat (own_cnt g 10))), .unset, .unset, .unset, .unset, .unset, .unset, .unset, .unset] [(.int (Int32.ofNat (own_sm g 15)))]))
        refine W.g_istore (pc1 := 518) (ls2 := #[.val (.int bits), .val (.int sz), .val (.int jd), .val (.int (Int32.ofNat n)), .val (.ref x139), .val (.int (Int32.ofNat (own_cnt g 15))), .val (.int (Int32.ofNat (own_sm g 15))), .val (.int (Int32.ofNat (own_cnt g 5))), .val (.int (Int32.ofNat (own_cnt g 10))), .unset, .unset, .unset, .unset, .unset, .unset, .unset, .unset]) P154.q at_516 rfl rfl ?_
        exact K15 T154 _ h154 _ P154 (own_stY hf hgk) R154
  have K13 : ∀ (T1 : State) (L1 : List Loc) (h1 : Heap) (f : Nat → Int32), W.Pos p l e room_1 s m #[.int bits, .int sz, .int jd] below meth c code Z [] [] h0 x.cls s.vm T1 L1 1 16 h1 → own_st g n 13 f → W.Arg Z h1 x139 k139 .boolean n f → W.Go p.tables e below (W.GN s (Q1 h0.size) room_1) (T1.setTop (mkF m 448 #[.val (.int bits), .val (.int sz), .val (.int jd), .val (.int (Int32.ofNat n)), .val (.ref x139), .val (.int (Int32.ofNat (own_cnt g 13))), .val (.int (Int32.ofNat (own_sm g 13))), .val (.int (Int32.ofNat (own_cnt g 5))), .val (.int (Int32.ofNat (own_cnt g 10))), .unset, .unset, .unset, .unset, .unset, .unset, .unset, .unset] [])) := by
    intro T1 L1 h1 f P1 hf R1
    refine W.g_iloadN (pc1 := 449) P1.q at_448 rfl rfl ?_
    refine W.g_bipush (pc1 := 451) (v := (13 : Int32)) P1.q at_449 (by decide) rfl ?_
    refine W.g_cmp (pc1 := 483) (pc2 := 454) P1.q at_451 (by decide) rfl rfl (fun (ha : ¬ (13 : Int32) < (Int32.ofNat n)) => ?_) (fun (ha : ¬ (¬ (13 : Int32) < (Int32.ofNat n))) => ?_)
    · have hgk : g 13 = false := by rw [eg]; exact own_gN (Nat.le_of_not_lt (fun q => ha ((W.lt32 (i := 13) (by decide) (by omega)).mpr q)))
      have e1 : own_cnt g 14 = own_cnt g 13 := own_cntN hgk
      have e2 : own_sm g 14 = own_sm g 13 := own_smN hgk
      have Kn := K14 T1 _ h1 f P1 (own_stN hf hgk) R1
      rw [e1, e2] at Kn
      exact Kn
    · refine W.g_iloadN (pc1 := 455) P1.q at_454 rfl rfl ?_
      refine W.g_bipush (pc1 := 457) (v := (13 : Int32)) P1.q at_455 (by decide) rfl ?_
      refine W.g_ishr (pc1 := 458) P1.q at_457 rfl ?_
      refine W.g_iconst (pc1 := 459) (v := (1 : Int32)) P1.q at_458 (by decide) rfl ?_
      refine W.g_iand (pc1 := 460) P1.q at_459 rfl ?_
      refine W.g_if (pc1 := 483) (pc2 := 463) P1.q at_460 (by decide) rfl rfl (fun (hb : ((bits >>> ((13 : Int32) &&& 31)) &&& (1 : Int32)) = 0) => ?_) (fun (hb : ¬ (((bits >>> ((13 : Int32) &&& 31)) &&& (1 : Int32)) = 0)) => ?_)
      · have hgk : g 13 = false := by rw [eg]; exact own_g0 hb
        have e1 : own_cnt g 14 = own_cnt g 13 := own_cntN hgk
        have e2 : own_sm g 14 = own_sm g 13 := own_smN hgk
        have Kn := K14 T1 _ h1 f P1 (own_stN hf hgk) R1
        rw [e1, e2] at Kn
        exact Kn
      · have hgk : g 13 = true := by rw [eg]; exact own_gY ((W.lt32 (i := 13) (by decide) (by omega)).mp (Decidable.byContradiction ha)) hb
        refine W.g_aload (pc1 := 465) P1.q at_463 rfl rfl rfl ?_
        refine W.g_bipush (pc1 := 467) (v := (13 : Int32)) P1.q at_465 (by decide) rfl ?_
        refine W.g_iconst (pc1 := 468) (v := (1 : Int32)) P1.q at_467 (by decide) rfl ?_
        show W.Go p.tables e below _ (T1.setTop (mkF m 468 #[.val (.int bits), .val (.int sz), .val (.int jd), .val (.int (Int32.ofNat n)), .val (.ref x139), .val (.int (Int32.ofNat (own_cnt g 13))), .val (.int (Int32.ofNat (own_sm g 13))), .val (.int (Int32.ofNat (own_cnt g 5))), .val (.int (Int32.ofNat (own_cnt g 10))), .unset, .unset, .unset, .unset, .unset, .unset, .unset, .unset] [(.int (1 : Int32)), (.int (Int32.ofNat 13)), (.ref x139)]))
        refine P1.stZg (pc1 := 469) R1 (i := 13) ((W.lt32 (i := 13) (by decide) (by omega)).mp (Decidable.byContradiction ha)) (Or.inr (Nat.le_of_eq g139.symm)) W.safe0 at_468 rfl ?_
        intro T155 h155 P155 W155 R155
        refine W.g_iinc (pc1 := 472) (ls2 := #[.val (.int bits), .val (.int sz), .val (.int jd), .val (.int (Int32.ofNat n)), .val (.ref x139), .val (.int ((Int32.ofNat (own_cnt g 13)) + Int32.ofInt 1)), .val (.int (Int32.ofNat (own_sm g 13))), .val (.int (Int32.ofNat (own_cnt g 5))), .val (.int (Int32.ofNat (own_cnt g 10))), .unset, .unset, .unset, .unset, .unset, .unset, .unset, .unset]) P155.q at_469 rfl rfl rfl ?_
        rw [W.succ32]
        show W.Go p.tables e below _ (T155.setTop (mkF m 472 #[.val (.int bits), .val (.int sz), .val (.int jd), .val (.int (Int32.ofNat n)), .val (.ref x139), .val (.int (Int32.ofNat (own_cnt g 13 + 1))), .val (.int (Int32.ofNat (own_sm g 13))), .val (.int (Int32.ofNat (own_cnt g 5))), .val (.int (Int32.ofNat (own_cnt g 10))), .unset, .unset, .unset, .unset, .unset, .unset, .unset, .unset] []))
        refine W.g_iload (pc1 := 474) P155.q at_472 rfl rfl ?_
        refine W.g_iload (pc1 := 476) P155.q at_474 rfl rfl ?_
        refine W.g_sipush (pc1 := 479) (v := (25740 : Int32)) P155.q at_476 (by decide) rfl ?_
        refine W.g_imul (pc1 := 480) P155.q at_479 rfl ?_
        refine W.g_iadd (pc1 := 481) P155.q at_480 rfl ?_
        rw [own_smY hgk (by decide), ← own_cntY hgk]
        show W.Go p.tables e below _ (T155.setTop (mkF m 481 #[.val (.int bits), .val (.int sz), .val (.int jd), .val (.int (Int32.ofNat n)), .val (.ref x139), .val (.int (Int32.ofNat (own_cnt g 14))), .val (.int (Int32.ofNat (own_sm g 13))), .val (.int (Int32.ofNat (own_cnt g 5))), .val (.int (Int32.ofNat (own_cnt g 10))), .unset, .unset, .unset, .unset, .unset, .unset, .unset, .unset] [(.int (Int32.ofNat (own_sm g 14)))]))
        refine W.g_istore (pc1 := 483) (ls2 := #[.val (.int bits), .val (.int sz), .val (.int jd), .val (.int (Int32.ofNat n)), .val (.ref x139), .val (.int (Int32.ofNat (own_cnt g 14))), .val (.int (Int32.ofNat (own_sm g 14))), .val (.int (Int32.ofNat (own_cnt g 5))), .val (.int (Int32.ofNat (own_cnt g 10))), .unset, .unset, .unset, .unset, .unset, .unset, .unset, .unset]) P155.q at_481 rfl rfl ?_
        exact K14 T155 _ h155 _ P155 (own_stY hf hgk) R155
  have K12 : ∀ (T1 : State) (L1 : List Loc) (h1 : Heap) (f : Nat → Int32), W.Pos p l e room_1 s m #[.int bits, .int sz, .int jd] below meth c code Z [] [] h0 x.cls s.vm T1 L1 1 16 h1 → own_st g n 12 f → W.Arg Z h1 x139 k139 .boolean n f → W.Go p.tables e below (W.GN s (Q1 h0.size) room_1) (T1.setTop (mkF m 413 #[.val (.int bits), .val (.int sz), .val (.int jd), .val (.int (Int32.ofNat n)), .val (.ref x139), .val (.int (Int32.ofNat (own_cnt g 12))), .val (.int (Int32.ofNat (own_sm g 12))), .val (.int (Int32.ofNat (own_cnt g 5))), .val (.int (Int32.ofNat (own_cnt g 10))), .unset, .unset, .unset, .unset, .unset, .unset, .unset, .unset] [])) := by
    intro T1 L1 h1 f P1 hf R1
    refine W.g_iloadN (pc1 := 414) P1.q at_413 rfl rfl ?_
    refine W.g_bipush (pc1 := 416) (v := (12 : Int32)) P1.q at_414 (by decide) rfl ?_
    refine W.g_cmp (pc1 := 448) (pc2 := 419) P1.q at_416 (by decide) rfl rfl (fun (ha : ¬ (12 : Int32) < (Int32.ofNat n)) => ?_) (fun (ha : ¬ (¬ (12 : Int32) < (Int32.ofNat n))) => ?_)
    · have hgk : g 12 = false := by rw [eg]; exact own_gN (Nat.le_of_not_lt (fun q => ha ((W.lt32 (i := 12) (by decide) (by omega)).mpr q)))
      have e1 : own_cnt g 13 = own_cnt g 12 := own_cntN hgk
      have e2 : own_sm g 13 = own_sm g 12 := own_smN hgk
      have Kn := K13 T1 _ h1 f P1 (own_stN hf hgk) R1
      rw [e1, e2] at Kn
      exact Kn
    · refine W.g_iloadN (pc1 := 420) P1.q at_419 rfl rfl ?_
      refine W.g_bipush (pc1 := 422) (v := (12 : Int32)) P1.q at_420 (by decide) rfl ?_
      refine W.g_ishr (pc1 := 423) P1.q at_422 rfl ?_
      refine W.g_iconst (pc1 := 424) (v := (1 : Int32)) P1.q at_423 (by decide) rfl ?_
      refine W.g_iand (pc1 := 425) P1.q at_424 rfl ?_
      refine W.g_if (pc1 := 448) (pc2 := 428) P1.q at_425 (by decide) rfl rfl (fun (hb : ((bits >>> ((12 : Int32) &&& 31)) &&& (1 : Int32)) = 0) => ?_) (fun (hb : ¬ (((bits >>> ((12 : Int32) &&& 31)) &&& (1 : Int32)) = 0)) => ?_)
      · have hgk : g 12 = false := by rw [eg]; exact own_g0 hb
        have e1 : own_cnt g 13 = own_cnt g 12 := own_cntN hgk
        have e2 : own_sm g 13 = own_sm g 12 := own_smN hgk
        have Kn := K13 T1 _ h1 f P1 (own_stN hf hgk) R1
        rw [e1, e2] at Kn
        exact Kn
      · have hgk : g 12 = true := by rw [eg]; exact own_gY ((W.lt32 (i := 12) (by decide) (by omega)).mp (Decidable.byContradiction ha)) hb
        refine W.g_aload (pc1 := 430) P1.q at_428 rfl rfl rfl ?_
        refine W.g_bipush (pc1 := 432) (v := (12 : Int32)) P1.q at_430 (by decide) rfl ?_
        refine W.g_iconst (pc1 := 433) (v := (1 : Int32)) P1.q at_432 (by decide) rfl ?_
        show W.Go p.tables e below _ (T1.setTop (mkF m 433 #[.val (.int bits), .val (.int sz), .val (.int jd), .val (.int (Int32.ofNat n)), .val (.ref x139), .val (.int (Int32.ofNat (own_cnt g 12))), .val (.int (Int32.ofNat (own_sm g 12))), .val (.int (Int32.ofNat (own_cnt g 5))), .val (.int (Int32.ofNat (own_cnt g 10))), .unset, .unset, .unset, .unset, .unset, .unset, .unset, .unset] [(.int (1 : Int32)), (.int (Int32.ofNat 12)), (.ref x139)]))
        refine P1.stZg (pc1 := 434) R1 (i := 12) ((W.lt32 (i := 12) (by decide) (by omega)).mp (Decidable.byContradiction ha)) (Or.inr (Nat.le_of_eq g139.symm)) W.safe0 at_433 rfl ?_
        intro T156 h156 P156 W156 R156
        refine W.g_iinc (pc1 := 437) (ls2 := #[.val (.int bits), .val (.int sz), .val (.int jd), .val (.int (Int32.ofNat n)), .val (.ref x139), .val (.int ((Int32.ofNat (own_cnt g 12)) + Int32.ofInt 1)), .val (.int (Int32.ofNat (own_sm g 12))), .val (.int (Int32.ofNat (own_cnt g 5))), .val (.int (Int32.ofNat (own_cnt g 10))), .unset, .unset, .unset, .unset, .unset, .unset, .unset, .unset]) P156.q at_434 rfl rfl rfl ?_
        rw [W.succ32]
        show W.Go p.tables e below _ (T156.setTop (mkF m 437 #[.val (.int bits), .val (.int sz), .val (.int jd), .val (.int (Int32.ofNat n)), .val (.ref x139), .val (.int (Int32.ofNat (own_cnt g 12 + 1))), .val (.int (Int32.ofNat (own_sm g 12))), .val (.int (Int32.ofNat (own_cnt g 5))), .val (.int (Int32.ofNat (own_cnt g 10))), .unset, .unset, .unset, .unset, .unset, .unset, .unset, .unset] []))
        refine W.g_iload (pc1 := 439) P156.q at_437 rfl rfl ?_
        refine W.g_iload (pc1 := 441) P156.q at_439 rfl rfl ?_
        refine W.g_sipush (pc1 := 444) (v := (27720 : Int32)) P156.q at_441 (by decide) rfl ?_
        refine W.g_imul (pc1 := 445) P156.q at_444 rfl ?_
        refine W.g_iadd (pc1 := 446) P156.q at_445 rfl ?_
        rw [own_smY hgk (by decide), ← own_cntY hgk]
        show W.Go p.tables e below _ (T156.setTop (mkF m 446 #[.val (.int bits), .val (.int sz), .val (.int jd), .val (.int (Int32.ofNat n)), .val (.ref x139), .val (.int (Int32.ofNat (own_cnt g 13))), .val (.int (Int32.ofNat (own_sm g 12))), .val (.int (Int32.ofNat (own_cnt g 5))), .val (.int (Int32.ofNat (own_cnt g 10))), .unset, .unset, .unset, .unset, .unset, .unset, .unset, .unset] [(.int (Int32.ofNat (own_sm g 13)))]))
        refine W.g_istore (pc1 := 448) (ls2 := #[.val (.int bits), .val (.int sz), .val (.int jd), .val (.int (Int32.ofNat n)), .val (.ref x139), .val (.int (Int32.ofNat (own_cnt g 13))), .val (.int (Int32.ofNat (own_sm g 13))), .val (.int (Int32.ofNat (own_cnt g 5))), .val (.int (Int32.ofNat (own_cnt g 10))), .unset, .unset, .unset, .unset, .unset, .unset, .unset, .unset]) P156.q at_446 rfl rfl ?_
        exact K13 T156 _ h156 _ P156 (own_stY hf hgk) R156
  have K11 : ∀ (T1 : State) (L1 : List Loc) (h1 : Heap) (f : Nat → Int32), W.Pos p l e room_1 s m #[.int bits, .int sz, .int jd] below meth c code Z [] [] h0 x.cls s.vm T1 L1 1 16 h1 → own_st g n 11 f → W.Arg Z h1 x139 k139 .boolean n f → W.Go p.tables e below (W.GN s (Q1 h0.size) room_1) (T1.setTop (mkF m 378 #[.val (.int bits), .val (.int sz), .val (.int jd), .val (.int (Int32.ofNat n)), .val (.ref x139), .val (.int (Int32.ofNat (own_cnt g 11))), .val (.int (Int32.ofNat (own_sm g 11))), .val (.int (Int32.ofNat (own_cnt g 5))), .val (.int (Int32.ofNat (own_cnt g 10))), .unset, .unset, .unset, .unset, .unset, .unset, .unset, .unset] [])) := by
    intro T1 L1 h1 f P1 hf R1
    refine W.g_iloadN (pc1 := 379) P1.q at_378 rfl rfl ?_
    refine W.g_bipush (pc1 := 381) (v := (11 : Int32)) P1.q at_379 (by decide) rfl ?_
    refine W.g_cmp (pc1 := 413) (pc2 := 384) P1.q at_381 (by decide) rfl rfl (fun (ha : ¬ (11 : Int32) < (Int32.ofNat n)) => ?_) (fun (ha : ¬ (¬ (11 : Int32) < (Int32.ofNat n))) => ?_)
    · have hgk : g 11 = false := by rw [eg]; exact own_gN (Nat.le_of_not_lt (fun q => ha ((W.lt32 (i := 11) (by decide) (by omega)).mpr q)))
      have e1 : own_cnt g 12 = own_cnt g 11 := own_cntN hgk
      have e2 : own_sm g 12 = own_sm g 11 := own_smN hgk
      have Kn := K12 T1 _ h1 f P1 (own_stN hf hgk) R1
      rw [e1, e2] at Kn
      exact Kn
    · refine W.g_iloadN (pc1 := 385) P1.q at_384 rfl rfl ?_
      refine W.g_bipush (pc1 := 387) (v := (11 : Int32)) P1.q at_385 (by decide) rfl ?_
      refine W.g_ishr (pc1 := 388) P1.q at_387 rfl ?_
      refine W.g_iconst (pc1 := 389) (v := (1 : Int32)) P1.q at_388 (by decide) rfl ?_
      refine W.g_iand (pc1 := 390) P1.q at_389 rfl ?_
      refine W.g_if (pc1 := 413) (pc2 := 393) P1.q at_390 (by decide) rfl rfl (fun (hb : ((bits >>> ((11 : Int32) &&& 31)) &&& (1 : Int32)) = 0) => ?_) (fun (hb : ¬ (((bits >>> ((11 : Int32) &&& 31)) &&& (1 : Int32)) = 0)) => ?_)
      · have hgk : g 11 = false := by rw [eg]; exact own_g0 hb
        have e1 : own_cnt g 12 = own_cnt g 11 := own_cntN hgk
        have e2 : own_sm g 12 = own_sm g 11 := own_smN hgk
        have Kn := K12 T1 _ h1 f P1 (own_stN hf hgk) R1
        rw [e1, e2] at Kn
        exact Kn
      · have hgk : g 11 = true := by rw [eg]; exact own_gY ((W.lt32 (i := 11) (by decide) (by omega)).mp (Decidable.byContradiction ha)) hb
        refine W.g_aload (pc1 := 395) P1.q at_393 rfl rfl rfl ?_
        refine W.g_bipush (pc1 := 397) (v := (11 : Int32)) P1.q at_395 (by decide) rfl ?_
        refine W.g_iconst (pc1 := 398) (v := (1 : Int32)) P1.q at_397 (by decide) rfl ?_
        show W.Go p.tables e below _ (T1.setTop (mkF m 398 #[.val (.int bits), .val (.int sz), .val (.int jd), .val (.int (Int32.ofNat n)), .val (.ref x139), .val (.int (Int32.ofNat (own_cnt g 11))), .val (.int (Int32.ofNat (own_sm g 11))), .val (.int (Int32.ofNat (own_cnt g 5))), .val (.int (Int32.ofNat (own_cnt g 10))), .unset, .unset, .unset, .unset, .unset, .unset, .unset, .unset] [(.int (1 : Int32)), (.int (Int32.ofNat 11)), (.ref x139)]))
        refine P1.stZg (pc1 := 399) R1 (i := 11) ((W.lt32 (i := 11) (by decide) (by omega)).mp (Decidable.byContradiction ha)) (Or.inr (Nat.le_of_eq g139.symm)) W.safe0 at_398 rfl ?_
        intro T157 h157 P157 W157 R157
        refine W.g_iinc (pc1 := 402) (ls2 := #[.val (.int bits), .val (.int sz), .val (.int jd), .val (.int (Int32.ofNat n)), .val (.ref x139), .val (.int ((Int32.ofNat (own_cnt g 11)) + Int32.ofInt 1)), .val (.int (Int32.ofNat (own_sm g 11))), .val (.int (Int32.ofNat (own_cnt g 5))), .val (.int (Int32.ofNat (own_cnt g 10))), .unset, .unset, .unset, .unset, .unset, .unset, .unset, .unset]) P157.q at_399 rfl rfl rfl ?_
        rw [W.succ32]
        show W.Go p.tables e below _ (T157.setTop (mkF m 402 #[.val (.int bits), .val (.int sz), .val (.int jd), .val (.int (Int32.ofNat n)), .val (.ref x139), .val (.int (Int32.ofNat (own_cnt g 11 + 1))), .val (.int (Int32.ofNat (own_sm g 11))), .val (.int (Int32.ofNat (own_cnt g 5))), .val (.int (Int32.ofNat (own_cnt g 10))), .unset, .unset, .unset, .unset, .unset, .unset, .unset, .unset] []))
        refine W.g_iload (pc1 := 404) P157.q at_402 rfl rfl ?_
        refine W.g_iload (pc1 := 406) P157.q at_404 rfl rfl ?_
        refine W.g_sipush (pc1 := 409) (v := (30030 : Int32)) P157.q at_406 (by decide) rfl ?_
        refine W.g_imul (pc1 := 410) P157.q at_409 rfl ?_
        refine W.g_iadd (pc1 := 411) P157.q at_410 rfl ?_
        rw [own_smY hgk (by decide), ← own_cntY hgk]
        show W.Go p.tables e below _ (T157.setTop (mkF m 411 #[.val (.int bits), .val (.int sz), .val (.int jd), .val (.int (Int32.ofNat n)), .val (.ref x139), .val (.int (Int32.ofNat (own_cnt g 12))), .val (.int (Int32.ofNat (own_sm g 11))), .val (.int (Int32.ofNat (own_cnt g 5))), .val (.int (Int32.ofNat (own_cnt g 10))), .unset, .unset, .unset, .unset, .unset, .unset, .unset, .unset] [(.int (Int32.ofNat (own_sm g 12)))]))
        refine W.g_istore (pc1 := 413) (ls2 := #[.val (.int bits), .val (.int sz), .val (.int jd), .val (.int (Int32.ofNat n)), .val (.ref x139), .val (.int (Int32.ofNat (own_cnt g 12))), .val (.int (Int32.ofNat (own_sm g 12))), .val (.int (Int32.ofNat (own_cnt g 5))), .val (.int (Int32.ofNat (own_cnt g 10))), .unset, .unset, .unset, .unset, .unset, .unset, .unset, .unset]) P157.q at_411 rfl rfl ?_
        exact K12 T157 _ h157 _ P157 (own_stY hf hgk) R157
  have K10 : ∀ (T1 : State) (L1 : List Loc) (h1 : Heap) (f : Nat → Int32), W.Pos p l e room_1 s m #[.int bits, .int sz, .int jd] below meth c code Z [] [] h0 x.cls s.vm T1 L1 1 16 h1 → own_st g n 10 f → W.Arg Z h1 x139 k139 .boolean n f → W.Go p.tables e below (W.GN s (Q1 h0.size) room_1) (T1.setTop (mkF m 343 #[.val (.int bits), .val (.int sz), .val (.int jd), .val (.int (Int32.ofNat n)), .val (.ref x139), .val (.int (Int32.ofNat (own_cnt g 10))), .val (.int (Int32.ofNat (own_sm g 10))), .val (.int (Int32.ofNat (own_cnt g 5))), .val (.int (Int32.ofNat (own_cnt g 10))), .unset, .unset, .unset, .unset, .unset, .unset, .unset, .unset] [])) := by
    intro T1 L1 h1 f P1 hf R1
    refine W.g_iloadN (pc1 := 344) P1.q at_343 rfl rfl ?_
    refine W.g_bipush (pc1 := 346) (v := (10 : Int32)) P1.q at_344 (by decide) rfl ?_
    refine W.g_cmp (pc1 := 378) (pc2 := 349) P1.q at_346 (by decide) rfl rfl (fun (ha : ¬ (10 : Int32) < (Int32.ofNat n)) => ?_) (fun (ha : ¬ (¬ (10 : Int32) < (Int32.ofNat n))) => ?_)
    · have hgk : g 10 = false := by rw [eg]; exact own_gN (Nat.le_of_not_lt (fun q => ha ((W.lt32 (i := 10) (by decide) (by omega)).mpr q)))
      have e1 : own_cnt g 11 = own_cnt g 10 := own_cntN hgk
      have e2 : own_sm g 11 = own_sm g 10 := own_smN hgk
      have Kn := K11 T1 _ h1 f P1 (own_stN hf hgk) R1
      rw [e1, e2] at Kn
      exact Kn
    · refine W.g_iloadN (pc1 := 350) P1.q at_349 rfl rfl ?_
      refine W.g_bipush (pc1 := 352) (v := (10 : Int32)) P1.q at_350 (by decide) rfl ?_
      refine W.g_ishr (pc1 := 353) P1.q at_352 rfl ?_
      refine W.g_iconst (pc1 := 354) (v := (1 : Int32)) P1.q at_353 (by decide) rfl ?_
      refine W.g_iand (pc1 := 355) P1.q at_354 rfl ?_
      refine W.g_if (pc1 := 378) (pc2 := 358) P1.q at_355 (by decide) rfl rfl (fun (hb : ((bits >>> ((10 : Int32) &&& 31)) &&& (1 : Int32)) = 0) => ?_) (fun (hb : ¬ (((bits >>> ((10 : Int32) &&& 31)) &&& (1 : Int32)) = 0)) => ?_)
      · have hgk : g 10 = false := by rw [eg]; exact own_g0 hb
        have e1 : own_cnt g 11 = own_cnt g 10 := own_cntN hgk
        have e2 : own_sm g 11 = own_sm g 10 := own_smN hgk
        have Kn := K11 T1 _ h1 f P1 (own_stN hf hgk) R1
        rw [e1, e2] at Kn
        exact Kn
      · have hgk : g 10 = true := by rw [eg]; exact own_gY ((W.lt32 (i := 10) (by decide) (by omega)).mp (Decidable.byContradiction ha)) hb
        refine W.g_aload (pc1 := 360) P1.q at_358 rfl rfl rfl ?_
        refine W.g_bipush (pc1 := 362) (v := (10 : Int32)) P1.q at_360 (by decide) rfl ?_
        refine W.g_iconst (pc1 := 363) (v := (1 : Int32)) P1.q at_362 (by decide) rfl ?_
        show W.Go p.tables e below _ (T1.setTop (mkF m 363 #[.val (.int bits), .val (.int sz), .val (.int jd), .val (.int (Int32.ofNat n)), .val (.ref x139), .val (.int (Int32.ofNat (own_cnt g 10))), .val (.int (Int32.ofNat (own_sm g 10))), .val (.int (Int32.ofNat (own_cnt g 5))), .val (.int (Int32.ofNat (own_cnt g 10))), .unset, .unset, .unset, .unset, .unset, .unset, .unset, .unset] [(.int (1 : Int32)), (.int (Int32.ofNat 10)), (.ref x139)]))
        refine P1.stZg (pc1 := 364) R1 (i := 10) ((W.lt32 (i := 10) (by decide) (by omega)).mp (Decidable.byContradiction ha)) (Or.inr (Nat.le_of_eq g139.symm)) W.safe0 at_363 rfl ?_
        intro T158 h158 P158 W158 R158
        refine W.g_iinc (pc1 := 367) (ls2 := #[.val (.int bits), .val (.int sz), .val (.int jd), .val (.int (Int32.ofNat n)), .val (.ref x139), .val (.int ((Int32.ofNat (own_cnt g 10)) + Int32.ofInt 1)), .val (.int (Int32.ofNat (own_sm g 10))), .val (.int (Int32.ofNat (own_cnt g 5))), .val (.int (Int32.ofNat (own_cnt g 10))), .unset, .unset, .unset, .unset, .unset, .unset, .unset, .unset]) P158.q at_364 rfl rfl rfl ?_
        rw [W.succ32]
        show W.Go p.tables e below _ (T158.setTop (mkF m 367 #[.val (.int bits), .val (.int sz), .val (.int jd), .val (.int (Int32.ofNat n)), .val (.ref x139), .val (.int (Int32.ofNat (own_cnt g 10 + 1))), .val (.int (Int32.ofNat (own_sm g 10))), .val (.int (Int32.ofNat (own_cnt g 5))), .val (.int (Int32.ofNat (own_cnt g 10))), .unset, .unset, .unset, .unset, .unset, .unset, .unset, .unset] []))
        refine W.g_iload (pc1 := 369) P158.q at_367 rfl rfl ?_
        refine W.g_iload (pc1 := 371) P158.q at_369 rfl rfl ?_
        refine W.g_sipush (pc1 := 374) (v := (32760 : Int32)) P158.q at_371 (by decide) rfl ?_
        refine W.g_imul (pc1 := 375) P158.q at_374 rfl ?_
        refine W.g_iadd (pc1 := 376) P158.q at_375 rfl ?_
        rw [own_smY hgk (by decide), ← own_cntY hgk]
        show W.Go p.tables e below _ (T158.setTop (mkF m 376 #[.val (.int bits), .val (.int sz), .val (.int jd), .val (.int (Int32.ofNat n)), .val (.ref x139), .val (.int (Int32.ofNat (own_cnt g 11))), .val (.int (Int32.ofNat (own_sm g 10))), .val (.int (Int32.ofNat (own_cnt g 5))), .val (.int (Int32.ofNat (own_cnt g 10))), .unset, .unset, .unset, .unset, .unset, .unset, .unset, .unset] [(.int (Int32.ofNat (own_sm g 11)))]))
        refine W.g_istore (pc1 := 378) (ls2 := #[.val (.int bits), .val (.int sz), .val (.int jd), .val (.int (Int32.ofNat n)), .val (.ref x139), .val (.int (Int32.ofNat (own_cnt g 11))), .val (.int (Int32.ofNat (own_sm g 11))), .val (.int (Int32.ofNat (own_cnt g 5))), .val (.int (Int32.ofNat (own_cnt g 10))), .unset, .unset, .unset, .unset, .unset, .unset, .unset, .unset]) P158.q at_376 rfl rfl ?_
        exact K11 T158 _ h158 _ P158 (own_stY hf hgk) R158
  have K9 : ∀ (T1 : State) (L1 : List Loc) (h1 : Heap) (f : Nat → Int32), W.Pos p l e room_1 s m #[.int bits, .int sz, .int jd] below meth c code Z [] [] h0 x.cls s.vm T1 L1 1 16 h1 → own_st g n 9 f → W.Arg Z h1 x139 k139 .boolean n f → W.Go p.tables e below (W.GN s (Q1 h0.size) room_1) (T1.setTop (mkF m 305 #[.val (.int bits), .val (.int sz), .val (.int jd), .val (.int (Int32.ofNat n)), .val (.ref x139), .val (.int (Int32.ofNat (own_cnt g 9))), .val (.int (Int32.ofNat (own_sm g 9))), .val (.int (Int32.ofNat (own_cnt g 5))), .unset, .unset, .unset, .unset, .unset, .unset, .unset, .unset, .unset] [])) := by
    intro T1 L1 h1 f P1 hf R1
    refine W.g_iloadN (pc1 := 306) P1.q at_305 rfl rfl ?_
    refine W.g_bipush (pc1 := 308) (v := (9 : Int32)) P1.q at_306 (by decide) rfl ?_
    refine W.g_cmp (pc1 := 339) (pc2 := 311) P1.q at_308 (by decide) rfl rfl (fun (ha : ¬ (9 : Int32) < (Int32.ofNat n)) => ?_) (fun (ha : ¬ (¬ (9 : Int32) < (Int32.ofNat n))) => ?_)
    · have hgk : g 9 = false := by rw [eg]; exact own_gN (Nat.le_of_not_lt (fun q => ha ((W.lt32 (i := 9) (by decide) (by omega)).mpr q)))
      have e1 : own_cnt g 10 = own_cnt g 9 := own_cntN hgk
      have e2 : own_sm g 10 = own_sm g 9 := own_smN hgk
      refine W.g_iload (pc1 := 341) P1.q at_339 rfl rfl ?_
      refine W.g_istore (pc1 := 343) (ls2 := #[.val (.int bits), .val (.int sz), .val (.int jd), .val (.int (Int32.ofNat n)), .val (.ref x139), .val (.int (Int32.ofNat (own_cnt g 9))), .val (.int (Int32.ofNat (own_sm g 9))), .val (.int (Int32.ofNat (own_cnt g 5))), .val (.int (Int32.ofNat (own_cnt g 9))), .unset, .unset, .unset, .unset, .unset, .unset, .unset, .unset]) P1.q at_341 rfl rfl ?_
      have Kn := K10 T1 _ h1 f P1 (own_stN hf hgk) R1
      rw [e1, e2] at Kn
      exact Kn
    · refine W.g_iloadN (pc1 := 312) P1.q at_311 rfl rfl ?_
      refine W.g_bipush (pc1 := 314) (v := (9 : Int32)) P1.q at_312 (by decide) rfl ?_
      refine W.g_ishr (pc1 := 315) P1.q at_314 rfl ?_
      refine W.g_iconst (pc1 := 316) (v := (1 : Int32)) P1.q at_315 (by decide) rfl ?_
      refine W.g_iand (pc1 := 317) P1.q at_316 rfl ?_
      refine W.g_if (pc1 := 339) (pc2 := 320) P1.q at_317 (by decide) rfl rfl (fun (hb : ((bits >>> ((9 : Int32) &&& 31)) &&& (1 : Int32)) = 0) => ?_) (fun (hb : ¬ (((bits >>> ((9 : Int32) &&& 31)) &&& (1 : Int32)) = 0)) => ?_)
      · have hgk : g 9 = false := by rw [eg]; exact own_g0 hb
        have e1 : own_cnt g 10 = own_cnt g 9 := own_cntN hgk
        have e2 : own_sm g 10 = own_sm g 9 := own_smN hgk
        refine W.g_iload (pc1 := 341) P1.q at_339 rfl rfl ?_
        refine W.g_istore (pc1 := 343) (ls2 := #[.val (.int bits), .val (.int sz), .val (.int jd), .val (.int (Int32.ofNat n)), .val (.ref x139), .val (.int (Int32.ofNat (own_cnt g 9))), .val (.int (Int32.ofNat (own_sm g 9))), .val (.int (Int32.ofNat (own_cnt g 5))), .val (.int (Int32.ofNat (own_cnt g 9))), .unset, .unset, .unset, .unset, .unset, .unset, .unset, .unset]) P1.q at_341 rfl rfl ?_
        have Kn := K10 T1 _ h1 f P1 (own_stN hf hgk) R1
        rw [e1, e2] at Kn
        exact Kn
      · have hgk : g 9 = true := by rw [eg]; exact own_gY ((W.lt32 (i := 9) (by decide) (by omega)).mp (Decidable.byContradiction ha)) hb
        refine W.g_aload (pc1 := 322) P1.q at_320 rfl rfl rfl ?_
        refine W.g_bipush (pc1 := 324) (v := (9 : Int32)) P1.q at_322 (by decide) rfl ?_
        refine W.g_iconst (pc1 := 325) (v := (1 : Int32)) P1.q at_324 (by decide) rfl ?_
        show W.Go p.tables e below _ (T1.setTop (mkF m 325 #[.val (.int bits), .val (.int sz), .val (.int jd), .val (.int (Int32.ofNat n)), .val (.ref x139), .val (.int (Int32.ofNat (own_cnt g 9))), .val (.int (Int32.ofNat (own_sm g 9))), .val (.int (Int32.ofNat (own_cnt g 5))), .unset, .unset, .unset, .unset, .unset, .unset, .unset, .unset, .unset] [(.int (1 : Int32)), (.int (Int32.ofNat 9)), (.ref x139)]))
        refine P1.stZg (pc1 := 326) R1 (i := 9) ((W.lt32 (i := 9) (by decide) (by omega)).mp (Decidable.byContradiction ha)) (Or.inr (Nat.le_of_eq g139.symm)) W.safe0 at_325 rfl ?_
        intro T159 h159 P159 W159 R159
        refine W.g_iinc (pc1 := 329) (ls2 := #[.val (.int bits), .val (.int sz), .val (.int jd), .val (.int (Int32.ofNat n)), .val (.ref x139), .val (.int ((Int32.ofNat (own_cnt g 9)) + Int32.ofInt 1)), .val (.int (Int32.ofNat (own_sm g 9))), .val (.int (Int32.ofNat (own_cnt g 5))), .unset, .unset, .unset, .unset, .unset, .unset, .unset, .unset, .unset]) P159.q at_326 rfl rfl rfl ?_
        rw [W.succ32]
        show W.Go p.tables e below _ (T159.setTop (mkF m 329 #[.val (.int bits), .val (.int sz), .val (.int jd), .val (.int (Int32.ofNat n)), .val (.ref x139), .val (.int (Int32.ofNat (own_cnt g 9 + 1))), .val (.int (Int32.ofNat (own_sm g 9))), .val (.int (Int32.ofNat (own_cnt g 5))), .unset, .unset, .unset, .unset, .unset, .unset, .unset, .unset, .unset] []))
        refine W.g_iload (pc1 := 331) P159.q at_329 rfl rfl ?_
        refine W.g_iload (pc1 := 333) P159.q at_331 rfl rfl ?_
        refine P159.ldcI (pc1 := 335) (wd hw (k := 88) rfl) at_333 rfl ?_
        refine W.g_imul (pc1 := 336) P159.q at_335 rfl ?_
        refine W.g_iadd (pc1 := 337) P159.q at_336 rfl ?_
        rw [own_smY hgk (by decide), ← own_cntY hgk]
        show W.Go p.tables e below _ (T159.setTop (mkF m 337 #[.val (.int bits), .val (.int sz), .val (.int jd), .val (.int (Int32.ofNat n)), .val (.ref x139), .val (.int (Int32.ofNat (own_cnt g 10))), .val (.int (Int32.ofNat (own_sm g 9))), .val (.int (Int32.ofNat (own_cnt g 5))), .unset, .unset, .unset, .unset, .unset, .unset, .unset, .unset, .unset] [(.int (Int32.ofNat (own_sm g 10)))]))
        refine W.g_istore (pc1 := 339) (ls2 := #[.val (.int bits), .val (.int sz), .val (.int jd), .val (.int (Int32.ofNat n)), .val (.ref x139), .val (.int (Int32.ofNat (own_cnt g 10))), .val (.int (Int32.ofNat (own_sm g 10))), .val (.int (Int32.ofNat (own_cnt g 5))), .unset, .unset, .unset, .unset, .unset, .unset, .unset, .unset, .unset]) P159.q at_337 rfl rfl ?_
        refine W.g_iload (pc1 := 341) P159.q at_339 rfl rfl ?_
        refine W.g_istore (pc1 := 343) (ls2 := #[.val (.int bits), .val (.int sz), .val (.int jd), .val (.int (Int32.ofNat n)), .val (.ref x139), .val (.int (Int32.ofNat (own_cnt g 10))), .val (.int (Int32.ofNat (own_sm g 10))), .val (.int (Int32.ofNat (own_cnt g 5))), .val (.int (Int32.ofNat (own_cnt g 10))), .unset, .unset, .unset, .unset, .unset, .unset, .unset, .unset]) P159.q at_341 rfl rfl ?_
        exact K10 T159 _ h159 _ P159 (own_stY hf hgk) R159
  have K8 : ∀ (T1 : State) (L1 : List Loc) (h1 : Heap) (f : Nat → Int32), W.Pos p l e room_1 s m #[.int bits, .int sz, .int jd] below meth c code Z [] [] h0 x.cls s.vm T1 L1 1 16 h1 → own_st g n 8 f → W.Arg Z h1 x139 k139 .boolean n f → W.Go p.tables e below (W.GN s (Q1 h0.size) room_1) (T1.setTop (mkF m 271 #[.val (.int bits), .val (.int sz), .val (.int jd), .val (.int (Int32.ofNat n)), .val (.ref x139), .val (.int (Int32.ofNat (own_cnt g 8))), .val (.int (Int32.ofNat (own_sm g 8))), .val (.int (Int32.ofNat (own_cnt g 5))), .unset, .unset, .unset, .unset, .unset, .unset, .unset, .unset, .unset] [])) := by
    intro T1 L1 h1 f P1 hf R1
    refine W.g_iloadN (pc1 := 272) P1.q at_271 rfl rfl ?_
    refine W.g_bipush (pc1 := 274) (v := (8 : Int32)) P1.q at_272 (by decide) rfl ?_
    refine W.g_cmp (pc1 := 305) (pc2 := 277) P1.q at_274 (by decide) rfl rfl (fun (ha : ¬ (8 : Int32) < (Int32.ofNat n)) => ?_) (fun (ha : ¬ (¬ (8 : Int32) < (Int32.ofNat n))) => ?_)
    · have hgk : g 8 = false := by rw [eg]; exact own_gN (Nat.le_of_not_lt (fun q => ha ((W.lt32 (i := 8) (by decide) (by omega)).mpr q)))
      have e1 : own_cnt g 9 = own_cnt g 8 := own_cntN hgk
      have e2 : own_sm g 9 = own_sm g 8 := own_smN hgk
      have Kn := K9 T1 _ h1 f P1 (own_stN hf hgk) R1
      rw [e1, e2] at Kn
      exact Kn
    · refine W.g_iloadN (pc1 := 278) P1.q at_277 rfl rfl ?_
      refine W.g_bipush (pc1 := 280) (v := (8 : Int32)) P1.q at_278 (by decide) rfl ?_
      refine W.g_ishr (pc1 := 281) P1.q at_280 rfl ?_
      refine W.g_iconst (pc1 := 282) (v := (1 : Int32)) P1.q at_281 (by decide) rfl ?_
      refine W.g_iand (pc1 := 283) P1.q at_282 rfl ?_
      refine W.g_if (pc1 := 305) (pc2 := 286) P1.q at_283 (by decide) rfl rfl (fun (hb : ((bits >>> ((8 : Int32) &&& 31)) &&& (1 : Int32)) = 0) => ?_) (fun (hb : ¬ (((bits >>> ((8 : Int32) &&& 31)) &&& (1 : Int32)) = 0)) => ?_)
      · have hgk : g 8 = false := by rw [eg]; exact own_g0 hb
        have e1 : own_cnt g 9 = own_cnt g 8 := own_cntN hgk
        have e2 : own_sm g 9 = own_sm g 8 := own_smN hgk
        have Kn := K9 T1 _ h1 f P1 (own_stN hf hgk) R1
        rw [e1, e2] at Kn
        exact Kn
      · have hgk : g 8 = true := by rw [eg]; exact own_gY ((W.lt32 (i := 8) (by decide) (by omega)).mp (Decidable.byContradiction ha)) hb
        refine W.g_aload (pc1 := 288) P1.q at_286 rfl rfl rfl ?_
        refine W.g_bipush (pc1 := 290) (v := (8 : Int32)) P1.q at_288 (by decide) rfl ?_
        refine W.g_iconst (pc1 := 291) (v := (1 : Int32)) P1.q at_290 (by decide) rfl ?_
        show W.Go p.tables e below _ (T1.setTop (mkF m 291 #[.val (.int bits), .val (.int sz), .val (.int jd), .val (.int (Int32.ofNat n)), .val (.ref x139), .val (.int (Int32.ofNat (own_cnt g 8))), .val (.int (Int32.ofNat (own_sm g 8))), .val (.int (Int32.ofNat (own_cnt g 5))), .unset, .unset, .unset, .unset, .unset, .unset, .unset, .unset, .unset] [(.int (1 : Int32)), (.int (Int32.ofNat 8)), (.ref x139)]))
        refine P1.stZg (pc1 := 292) R1 (i := 8) ((W.lt32 (i := 8) (by decide) (by omega)).mp (Decidable.byContradiction ha)) (Or.inr (Nat.le_of_eq g139.symm)) W.safe0 at_291 rfl ?_
        intro T160 h160 P160 W160 R160
        refine W.g_iinc (pc1 := 295) (ls2 := #[.val (.int bits), .val (.int sz), .val (.int jd), .val (.int (Int32.ofNat n)), .val (.ref x139), .val (.int ((Int32.ofNat (own_cnt g 8)) + Int32.ofInt 1)), .val (.int (Int32.ofNat (own_sm g 8))), .val (.int (Int32.ofNat (own_cnt g 5))), .unset, .unset, .unset, .unset, .unset, .unset, .unset, .unset, .unset]) P160.q at_292 rfl rfl rfl ?_
        rw [W.succ32]
        show W.Go p.tables e below _ (T160.setTop (mkF m 295 #[.val (.int bits), .val (.int sz), .val (.int jd), .val (.int (Int32.ofNat n)), .val (.ref x139), .val (.int (Int32.ofNat (own_cnt g 8 + 1))), .val (.int (Int32.ofNat (own_sm g 8))), .val (.int (Int32.ofNat (own_cnt g 5))), .unset, .unset, .unset, .unset, .unset, .unset, .unset, .unset, .unset] []))
        refine W.g_iload (pc1 := 297) P160.q at_295 rfl rfl ?_
        refine W.g_iload (pc1 := 299) P160.q at_297 rfl rfl ?_
        refine P160.ldcI (pc1 := 301) (wd hw (k := 87) rfl) at_299 rfl ?_
        refine W.g_imul (pc1 := 302) P160.q at_301 rfl ?_
        refine W.g_iadd (pc1 := 303) P160.q at_302 rfl ?_
        rw [own_smY hgk (by decide), ← own_cntY hgk]
        show W.Go p.tables e below _ (T160.setTop (mkF m 303 #[.val (.int bits), .val (.int sz), .val (.int jd), .val (.int (Int32.ofNat n)), .val (.ref x139), .val (.int (Int32.ofNat (own_cnt g 9))), .val (.int (Int32.ofNat (own_sm g 8))), .val (.int (Int32.ofNat (own_cnt g 5))), .unset, .unset, .unset, .unset, .unset, .unset, .unset, .unset, .unset] [(.int (Int32.ofNat (own_sm g 9)))]))
        refine W.g_istore (pc1 := 305) (ls2 := #[.val (.int bits), .val (.int sz), .val (.int jd), .val (.int (Int32.ofNat n)), .val (.ref x139), .val (.int (Int32.ofNat (own_cnt g 9))), .val (.int (Int32.ofNat (own_sm g 9))), .val (.int (Int32.ofNat (own_cnt g 5))), .unset, .unset, .unset, .unset, .unset, .unset, .unset, .unset, .unset]) P160.q at_303 rfl rfl ?_
        exact K9 T160 _ h160 _ P160 (own_stY hf hgk) R160
  have K7 : ∀ (T1 : State) (L1 : List Loc) (h1 : Heap) (f : Nat → Int32), W.Pos p l e room_1 s m #[.int bits, .int sz, .int jd] below meth c code Z [] [] h0 x.cls s.vm T1 L1 1 16 h1 → own_st g n 7 f → W.Arg Z h1 x139 k139 .boolean n f → W.Go p.tables e below (W.GN s (Q1 h0.size) room_1) (T1.setTop (mkF m 237 #[.val (.int bits), .val (.int sz), .val (.int jd), .val (.int (Int32.ofNat n)), .val (.ref x139), .val (.int (Int32.ofNat (own_cnt g 7))), .val (.int (Int32.ofNat (own_sm g 7))), .val (.int (Int32.ofNat (own_cnt g 5))), .unset, .unset, .unset, .unset, .unset, .unset, .unset, .unset, .unset] [])) := by
    intro T1 L1 h1 f P1 hf R1
    refine W.g_iloadN (pc1 := 238) P1.q at_237 rfl rfl ?_
    refine W.g_bipush (pc1 := 240) (v := (7 : Int32)) P1.q at_238 (by decide) rfl ?_
    refine W.g_cmp (pc1 := 271) (pc2 := 243) P1.q at_240 (by decide) rfl rfl (fun (ha : ¬ (7 : Int32) < (Int32.ofNat n)) => ?_) (fun (ha : ¬ (¬ (7 : Int32) < (Int32.ofNat n))) => ?_)
    · have hgk : g 7 = false := by rw [eg]; exact own_gN (Nat.le_of_not_lt (fun q => ha ((W.lt32 (i := 7) (by decide) (by omega)).mpr q)))
      have e1 : own_cnt g 8 = own_cnt g 7 := own_cntN hgk
      have e2 : own_sm g 8 = own_sm g 7 := own_smN hgk
      have Kn := K8 T1 _ h1 f P1 (own_stN hf hgk) R1
      rw [e1, e2] at Kn
      exact Kn
    · refine W.g_iloadN (pc1 := 244) P1.q at_243 rfl rfl ?_
      refine W.g_bipush (pc1 := 246) (v := (7 : Int32)) P1.q at_244 (by decide) rfl ?_
      refine W.g_ishr (pc1 := 247) P1.q at_246 rfl ?_
      refine W.g_iconst (pc1 := 248) (v := (1 : Int32)) P1.q at_247 (by decide) rfl ?_
      refine W.g_iand (pc1 := 249) P1.q at_248 rfl ?_
      refine W.g_if (pc1 := 271) (pc2 := 252) P1.q at_249 (by decide) rfl rfl (fun (hb : ((bits >>> ((7 : Int32) &&& 31)) &&& (1 : Int32)) = 0) => ?_) (fun (hb : ¬ (((bits >>> ((7 : Int32) &&& 31)) &&& (1 : Int32)) = 0)) => ?_)
      · have hgk : g 7 = false := by rw [eg]; exact own_g0 hb
        have e1 : own_cnt g 8 = own_cnt g 7 := own_cntN hgk
        have e2 : own_sm g 8 = own_sm g 7 := own_smN hgk
        have Kn := K8 T1 _ h1 f P1 (own_stN hf hgk) R1
        rw [e1, e2] at Kn
        exact Kn
      · have hgk : g 7 = true := by rw [eg]; exact own_gY ((W.lt32 (i := 7) (by decide) (by omega)).mp (Decidable.byContradiction ha)) hb
        refine W.g_aload (pc1 := 254) P1.q at_252 rfl rfl rfl ?_
        refine W.g_bipush (pc1 := 256) (v := (7 : Int32)) P1.q at_254 (by decide) rfl ?_
        refine W.g_iconst (pc1 := 257) (v := (1 : Int32)) P1.q at_256 (by decide) rfl ?_
        show W.Go p.tables e below _ (T1.setTop (mkF m 257 #[.val (.int bits), .val (.int sz), .val (.int jd), .val (.int (Int32.ofNat n)), .val (.ref x139), .val (.int (Int32.ofNat (own_cnt g 7))), .val (.int (Int32.ofNat (own_sm g 7))), .val (.int (Int32.ofNat (own_cnt g 5))), .unset, .unset, .unset, .unset, .unset, .unset, .unset, .unset, .unset] [(.int (1 : Int32)), (.int (Int32.ofNat 7)), (.ref x139)]))
        refine P1.stZg (pc1 := 258) R1 (i := 7) ((W.lt32 (i := 7) (by decide) (by omega)).mp (Decidable.byContradiction ha)) (Or.inr (Nat.le_of_eq g139.symm)) W.safe0 at_257 rfl ?_
        intro T161 h161 P161 W161 R161
        refine W.g_iinc (pc1 := 261) (ls2 := #[.val (.int bits), .val (.int sz), .val (.int jd), .val (.int (Int32.ofNat n)), .val (.ref x139), .val (.int ((Int32.ofNat (own_cnt g 7)) + Int32.ofInt 1)), .val (.int (Int32.ofNat (own_sm g 7))), .val (.int (Int32.ofNat (own_cnt g 5))), .unset, .unset, .unset, .unset, .unset, .unset, .unset, .unset, .unset]) P161.q at_258 rfl rfl rfl ?_
        rw [W.succ32]
        show W.Go p.tables e below _ (T161.setTop (mkF m 261 #[.val (.int bits), .val (.int sz), .val (.int jd), .val (.int (Int32.ofNat n)), .val (.ref x139), .val (.int (Int32.ofNat (own_cnt g 7 + 1))), .val (.int (Int32.ofNat (own_sm g 7))), .val (.int (Int32.ofNat (own_cnt g 5))), .unset, .unset, .unset, .unset, .unset, .unset, .unset, .unset, .unset] []))
        refine W.g_iload (pc1 := 263) P161.q at_261 rfl rfl ?_
        refine W.g_iload (pc1 := 265) P161.q at_263 rfl rfl ?_
        refine P161.ldcI (pc1 := 267) (wd hw (k := 83) rfl) at_265 rfl ?_
        refine W.g_imul (pc1 := 268) P161.q at_267 rfl ?_
        refine W.g_iadd (pc1 := 269) P161.q at_268 rfl ?_
        rw [own_smY hgk (by decide), ← own_cntY hgk]
        show W.Go p.tables e below _ (T161.setTop (mkF m 269 #[.val (.int bits), .val (.int sz), .val (.int jd), .val (.int (Int32.ofNat n)), .val (.ref x139), .val (.int (Int32.ofNat (own_cnt g 8))), .val (.int (Int32.ofNat (own_sm g 7))), .val (.int (Int32.ofNat (own_cnt g 5))), .unset, .unset, .unset, .unset, .unset, .unset, .unset, .unset, .unset] [(.int (Int32.ofNat (own_sm g 8)))]))
        refine W.g_istore (pc1 := 271) (ls2 := #[.val (.int bits), .val (.int sz), .val (.int jd), .val (.int (Int32.ofNat n)), .val (.ref x139), .val (.int (Int32.ofNat (own_cnt g 8))), .val (.int (Int32.ofNat (own_sm g 8))), .val (.int (Int32.ofNat (own_cnt g 5))), .unset, .unset, .unset, .unset, .unset, .unset, .unset, .unset, .unset]) P161.q at_269 rfl rfl ?_
        exact K8 T161 _ h161 _ P161 (own_stY hf hgk) R161
  have K6 : ∀ (T1 : State) (L1 : List Loc) (h1 : Heap) (f : Nat → Int32), W.Pos p l e room_1 s m #[.int bits, .int sz, .int jd] below meth c code Z [] [] h0 x.cls s.vm T1 L1 1 16 h1 → own_st g n 6 f → W.Arg Z h1 x139 k139 .boolean n f → W.Go p.tables e below (W.GN s (Q1 h0.size) room_1) (T1.setTop (mkF m 203 #[.val (.int bits), .val (.int sz), .val (.int jd), .val (.int (Int32.ofNat n)), .val (.ref x139), .val (.int (Int32.ofNat (own_cnt g 6))), .val (.int (Int32.ofNat (own_sm g 6))), .val (.int (Int32.ofNat (own_cnt g 5))), .unset, .unset, .unset, .unset, .unset, .unset, .unset, .unset, .unset] [])) := by
    intro T1 L1 h1 f P1 hf R1
    refine W.g_iloadN (pc1 := 204) P1.q at_203 rfl rfl ?_
    refine W.g_bipush (pc1 := 206) (v := (6 : Int32)) P1.q at_204 (by decide) rfl ?_
    refine W.g_cmp (pc1 := 237) (pc2 := 209) P1.q at_206 (by decide) rfl rfl (fun (ha : ¬ (6 : Int32) < (Int32.ofNat n)) => ?_) (fun (ha : ¬ (¬ (6 : Int32) < (Int32.ofNat n))) => ?_)
    · have hgk : g 6 = false := by rw [eg]; exact own_gN (Nat.le_of_not_lt (fun q => ha ((W.lt32 (i := 6) (by decide) (by omega)).mpr q)))
      have e1 : own_cnt g 7 = own_cnt g 6 := own_cntN hgk
      have e2 : own_sm g 7 = own_sm g 6 := own_smN hgk
      have Kn := K7 T1 _ h1 f P1 (own_stN hf hgk) R1
      rw [e1, e2] at Kn
      exact Kn
    · refine W.g_iloadN (pc1 := 210) P1.q at_209 rfl rfl ?_
      refine W.g_bipush (pc1 := 212) (v := (6 : Int32)) P1.q at_210 (by decide) rfl ?_
      refine W.g_ishr (pc1 := 213) P1.q at_212 rfl ?_
      refine W.g_iconst (pc1 := 214) (v := (1 : Int32)) P1.q at_213 (by decide) rfl ?_
      refine W.g_iand (pc1 := 215) P1.q at_214 rfl ?_
      refine W.g_if (pc1 := 237) (pc2 := 218) P1.q at_215 (by decide) rfl rfl (fun (hb : ((bits >>> ((6 : Int32) &&& 31)) &&& (1 : Int32)) = 0) => ?_) (fun (hb : ¬ (((bits >>> ((6 : Int32) &&& 31)) &&& (1 : Int32)) = 0)) => ?_)
      · have hgk : g 6 = false := by rw [eg]; exact own_g0 hb
        have e1 : own_cnt g 7 = own_cnt g 6 := own_cntN hgk
        have e2 : own_sm g 7 = own_sm g 6 := own_smN hgk
        have Kn := K7 T1 _ h1 f P1 (own_stN hf hgk) R1
        rw [e1, e2] at Kn
        exact Kn
      · have hgk : g 6 = true := by rw [eg]; exact own_gY ((W.lt32 (i := 6) (by decide) (by omega)).mp (Decidable.byContradiction ha)) hb
        refine W.g_aload (pc1 := 220) P1.q at_218 rfl rfl rfl ?_
        refine W.g_bipush (pc1 := 222) (v := (6 : Int32)) P1.q at_220 (by decide) rfl ?_
        refine W.g_iconst (pc1 := 223) (v := (1 : Int32)) P1.q at_222 (by decide) rfl ?_
        show W.Go p.tables e below _ (T1.setTop (mkF m 223 #[.val (.int bits), .val (.int sz), .val (.int jd), .val (.int (Int32.ofNat n)), .val (.ref x139), .val (.int (Int32.ofNat (own_cnt g 6))), .val (.int (Int32.ofNat (own_sm g 6))), .val (.int (Int32.ofNat (own_cnt g 5))), .unset, .unset, .unset, .unset, .unset, .unset, .unset, .unset, .unset] [(.int (1 : Int32)), (.int (Int32.ofNat 6)), (.ref x139)]))
        refine P1.stZg (pc1 := 224) R1 (i := 6) ((W.lt32 (i := 6) (by decide) (by omega)).mp (Decidable.byContradiction ha)) (Or.inr (Nat.le_of_eq g139.symm)) W.safe0 at_223 rfl ?_
        intro T162 h162 P162 W162 R162
        refine W.g_iinc (pc1 := 227) (ls2 := #[.val (.int bits), .val (.int sz), .val (.int jd), .val (.int (Int32.ofNat n)), .val (.ref x139), .val (.int ((Int32.ofNat (own_cnt g 6)) + Int32.ofInt 1)), .val (.int (Int32.ofNat (own_sm g 6))), .val (.int (Int32.ofNat (own_cnt g 5))), .unset, .unset, .unset, .unset, .unset, .unset, .unset, .unset, .unset]) P162.q at_224 rfl rfl rfl ?_
        rw [W.succ32]
        show W.Go p.tables e below _ (T162.setTop (mkF m 227 #[.val (.int bits), .val (.int sz), .val (.int jd), .val (.int (Int32.ofNat n)), .val (.ref x139), .val (.int (Int32.ofNat (own_cnt g 6 + 1))), .val (.int (Int32.ofNat (own_sm g 6))), .val (.int (Int32.ofNat (own_cnt g 5))), .unset, .unset, .unset, .unset, .unset, .unset, .unset, .unset, .unset] []))
        refine W.g_iload (pc1 := 229) P162.q at_227 rfl rfl ?_
        refine W.g_iload (pc1 := 231) P162.q at_229 rfl rfl ?_
        refine P162.ldcI (pc1 := 233) (wd hw (k := 86) rfl) at_231 rfl ?_
        refine W.g_imul (pc1 := 234) P162.q at_233 rfl ?_
        refine W.g_iadd (pc1 := 235) P162.q at_234 rfl ?_
        rw [own_smY hgk (by decide), ← own_cntY hgk]
        show W.Go p.tables e below _ (T162.setTop (mkF m 235 #[.val (.int bits), .val (.int sz), .val (.int jd), .val (.int (Int32.ofNat n)), .val (.ref x139), .val (.int (Int32.ofNat (own_cnt g 7))), .val (.int (Int32.ofNat (own_sm g 6))), .val (.int (Int32.ofNat (own_cnt g 5))), .unset, .unset, .unset, .unset, .unset, .unset, .unset, .unset, .unset] [(.int (Int32.ofNat (own_sm g 7)))]))
        refine W.g_istore (pc1 := 237) (ls2 := #[.val (.int bits), .val (.int sz), .val (.int jd), .val (.int (Int32.ofNat n)), .val (.ref x139), .val (.int (Int32.ofNat (own_cnt g 7))), .val (.int (Int32.ofNat (own_sm g 7))), .val (.int (Int32.ofNat (own_cnt g 5))), .unset, .unset, .unset, .unset, .unset, .unset, .unset, .unset, .unset]) P162.q at_235 rfl rfl ?_
        exact K7 T162 _ h162 _ P162 (own_stY hf hgk) R162
  have K5 : ∀ (T1 : State) (L1 : List Loc) (h1 : Heap) (f : Nat → Int32), W.Pos p l e room_1 s m #[.int bits, .int sz, .int jd] below meth c code Z [] [] h0 x.cls s.vm T1 L1 1 16 h1 → own_st g n 5 f → W.Arg Z h1 x139 k139 .boolean n f → W.Go p.tables e below (W.GN s (Q1 h0.size) room_1) (T1.setTop (mkF m 172 #[.val (.int bits), .val (.int sz), .val (.int jd), .val (.int (Int32.ofNat n)), .val (.ref x139), .val (.int (Int32.ofNat (own_cnt g 5))), .val (.int (Int32.ofNat (own_sm g 5))), .val (.int (Int32.ofNat (own_cnt g 5))), .unset, .unset, .unset, .unset, .unset, .unset, .unset, .unset, .unset] [])) := by
    intro T1 L1 h1 f P1 hf R1
    refine W.g_iloadN (pc1 := 173) P1.q at_172 rfl rfl ?_
    refine W.g_iconst (pc1 := 174) (v := (5 : Int32)) P1.q at_173 (by decide) rfl ?_
    refine W.g_cmp (pc1 := 203) (pc2 := 177) P1.q at_174 (by decide) rfl rfl (fun (ha : ¬ (5 : Int32) < (Int32.ofNat n)) => ?_) (fun (ha : ¬ (¬ (5 : Int32) < (Int32.ofNat n))) => ?_)
    · have hgk : g 5 = false := by rw [eg]; exact own_gN (Nat.le_of_not_lt (fun q => ha ((W.lt32 (i := 5) (by decide) (by omega)).mpr q)))
      have e1 : own_cnt g 6 = own_cnt g 5 := own_cntN hgk
      have e2 : own_sm g 6 = own_sm g 5 := own_smN hgk
      have Kn := K6 T1 _ h1 f P1 (own_stN hf hgk) R1
      rw [e1, e2] at Kn
      exact Kn
    · refine W.g_iloadN (pc1 := 178) P1.q at_177 rfl rfl ?_
      refine W.g_iconst (pc1 := 179) (v := (5 : Int32)) P1.q at_178 (by decide) rfl ?_
      refine W.g_ishr (pc1 := 180) P1.q at_179 rfl ?_
      refine W.g_iconst (pc1 := 181) (v := (1 : Int32)) P1.q at_180 (by decide) rfl ?_
      refine W.g_iand (pc1 := 182) P1.q at_181 rfl ?_
      refine W.g_if (pc1 := 203) (pc2 := 185) P1.q at_182 (by decide) rfl rfl (fun (hb : ((bits >>> ((5 : Int32) &&& 31)) &&& (1 : Int32)) = 0) => ?_) (fun (hb : ¬ (((bits >>> ((5 : Int32) &&& 31)) &&& (1 : Int32)) = 0)) => ?_)
      · have hgk : g 5 = false := by rw [eg]; exact own_g0 hb
        have e1 : own_cnt g 6 = own_cnt g 5 := own_cntN hgk
        have e2 : own_sm g 6 = own_sm g 5 := own_smN hgk
        have Kn := K6 T1 _ h1 f P1 (own_stN hf hgk) R1
        rw [e1, e2] at Kn
        exact Kn
      · have hgk : g 5 = true := by rw [eg]; exact own_gY ((W.lt32 (i := 5) (by decide) (by omega)).mp (Decidable.byContradiction ha)) hb
        refine W.g_aload (pc1 := 187) P1.q at_185 rfl rfl rfl ?_
        refine W.g_iconst (pc1 := 188) (v := (5 : Int32)) P1.q at_187 (by decide) rfl ?_
        refine W.g_iconst (pc1 := 189) (v := (1 : Int32)) P1.q at_188 (by decide) rfl ?_
        show W.Go p.tables e below _ (T1.setTop (mkF m 189 #[.val (.int bits), .val (.int sz), .val (.int jd), .val (.int (Int32.ofNat n)), .val (.ref x139), .val (.int (Int32.ofNat (own_cnt g 5))), .val (.int (Int32.ofNat (own_sm g 5))), .val (.int (Int32.ofNat (own_cnt g 5))), .unset, .unset, .unset, .unset, .unset, .unset, .unset, .unset, .unset] [(.int (1 : Int32)), (.int (Int32.ofNat 5)), (.ref x139)]))
        refine P1.stZg (pc1 := 190) R1 (i := 5) ((W.lt32 (i := 5) (by decide) (by omega)).mp (Decidable.byContradiction ha)) (Or.inr (Nat.le_of_eq g139.symm)) W.safe0 at_189 rfl ?_
        intro T163 h163 P163 W163 R163
        refine W.g_iinc (pc1 := 193) (ls2 := #[.val (.int bits), .val (.int sz), .val (.int jd), .val (.int (Int32.ofNat n)), .val (.ref x139), .val (.int ((Int32.ofNat (own_cnt g 5)) + Int32.ofInt 1)), .val (.int (Int32.ofNat (own_sm g 5))), .val (.int (Int32.ofNat (own_cnt g 5))), .unset, .unset, .unset, .unset, .unset, .unset, .unset, .unset, .unset]) P163.q at_190 rfl rfl rfl ?_
        rw [W.succ32]
        show W.Go p.tables e below _ (T163.setTop (mkF m 193 #[.val (.int bits), .val (.int sz), .val (.int jd), .val (.int (Int32.ofNat n)), .val (.ref x139), .val (.int (Int32.ofNat (own_cnt g 5 + 1))), .val (.int (Int32.ofNat (own_sm g 5))), .val (.int (Int32.ofNat (own_cnt g 5))), .unset, .unset, .unset, .unset, .unset, .unset, .unset, .unset, .unset] []))
        refine W.g_iload (pc1 := 195) P163.q at_193 rfl rfl ?_
        refine W.g_iload (pc1 := 197) P163.q at_195 rfl rfl ?_
        refine P163.ldcI (pc1 := 199) (wd hw (k := 82) rfl) at_197 rfl ?_
        refine W.g_imul (pc1 := 200) P163.q at_199 rfl ?_
        refine W.g_iadd (pc1 := 201) P163.q at_200 rfl ?_
        rw [own_smY hgk (by decide), ← own_cntY hgk]
        show W.Go p.tables e below _ (T163.setTop (mkF m 201 #[.val (.int bits), .val (.int sz), .val (.int jd), .val (.int (Int32.ofNat n)), .val (.ref x139), .val (.int (Int32.ofNat (own_cnt g 6))), .val (.int (Int32.ofNat (own_sm g 5))), .val (.int (Int32.ofNat (own_cnt g 5))), .unset, .unset, .unset, .unset, .unset, .unset, .unset, .unset, .unset] [(.int (Int32.ofNat (own_sm g 6)))]))
        refine W.g_istore (pc1 := 203) (ls2 := #[.val (.int bits), .val (.int sz), .val (.int jd), .val (.int (Int32.ofNat n)), .val (.ref x139), .val (.int (Int32.ofNat (own_cnt g 6))), .val (.int (Int32.ofNat (own_sm g 6))), .val (.int (Int32.ofNat (own_cnt g 5))), .unset, .unset, .unset, .unset, .unset, .unset, .unset, .unset, .unset]) P163.q at_201 rfl rfl ?_
        exact K6 T163 _ h163 _ P163 (own_stY hf hgk) R163
  have K4 : ∀ (T1 : State) (L1 : List Loc) (h1 : Heap) (f : Nat → Int32), W.Pos p l e room_1 s m #[.int bits, .int sz, .int jd] below meth c code Z [] [] h0 x.cls s.vm T1 L1 1 16 h1 → own_st g n 4 f → W.Arg Z h1 x139 k139 .boolean n f → W.Go p.tables e below (W.GN s (Q1 h0.size) room_1) (T1.setTop (mkF m 137 #[.val (.int bits), .val (.int sz), .val (.int jd), .val (.int (Int32.ofNat n)), .val (.ref x139), .val (.int (Int32.ofNat (own_cnt g 4))), .val (.int (Int32.ofNat (own_sm g 4))), .unset, .unset, .unset, .unset, .unset, .unset, .unset, .unset, .unset, .unset] [])) := by
    intro T1 L1 h1 f P1 hf R1
    refine W.g_iloadN (pc1 := 138) P1.q at_137 rfl rfl ?_
    refine W.g_iconst (pc1 := 139) (v := (4 : Int32)) P1.q at_138 (by decide) rfl ?_
    refine W.g_cmp (pc1 := 168) (pc2 := 142) P1.q at_139 (by decide) rfl rfl (fun (ha : ¬ (4 : Int32) < (Int32.ofNat n)) => ?_) (fun (ha : ¬ (¬ (4 : Int32) < (Int32.ofNat n))) => ?_)
    · have hgk : g 4 = false := by rw [eg]; exact own_gN (Nat.le_of_not_lt (fun q => ha ((W.lt32 (i := 4) (by decide) (by omega)).mpr q)))
      have e1 : own_cnt g 5 = own_cnt g 4 := own_cntN hgk
      have e2 : own_sm g 5 = own_sm g 4 := own_smN hgk
      refine W.g_iload (pc1 := 170) P1.q at_168 rfl rfl ?_
      refine W.g_istore (pc1 := 172) (ls2 := #[.val (.int bits), .val (.int sz), .val (.int jd), .val (.int (Int32.ofNat n)), .val (.ref x139), .val (.int (Int32.ofNat (own_cnt g 4))), .val (.int (Int32.ofNat (own_sm g 4))), .val (.int (Int32.ofNat (own_cnt g 4))), .unset, .unset, .unset, .unset, .unset, .unset, .unset, .unset, .unset]) P1.q at_170 rfl rfl ?_
      have Kn := K5 T1 _ h1 f P1 (own_stN hf hgk) R1
      rw [e1, e2] at Kn
      exact Kn
    · refine W.g_iloadN (pc1 := 143) P1.q at_142 rfl rfl ?_
      refine W.g_iconst (pc1 := 144) (v := (4 : Int32)) P1.q at_143 (by decide) rfl ?_
      refine W.g_ishr (pc1 := 145) P1.q at_144 rfl ?_
      refine W.g_iconst (pc1 := 146) (v := (1 : Int32)) P1.q at_145 (by decide) rfl ?_
      refine W.g_iand (pc1 := 147) P1.q at_146 rfl ?_
      refine W.g_if (pc1 := 168) (pc2 := 150) P1.q at_147 (by decide) rfl rfl (fun (hb : ((bits >>> ((4 : Int32) &&& 31)) &&& (1 : Int32)) = 0) => ?_) (fun (hb : ¬ (((bits >>> ((4 : Int32) &&& 31)) &&& (1 : Int32)) = 0)) => ?_)
      · have hgk : g 4 = false := by rw [eg]; exact own_g0 hb
        have e1 : own_cnt g 5 = own_cnt g 4 := own_cntN hgk
        have e2 : own_sm g 5 = own_sm g 4 := own_smN hgk
        refine W.g_iload (pc1 := 170) P1.q at_168 rfl rfl ?_
        refine W.g_istore (pc1 := 172) (ls2 := #[.val (.int bits), .val (.int sz), .val (.int jd), .val (.int (Int32.ofNat n)), .val (.ref x139), .val (.int (Int32.ofNat (own_cnt g 4))), .val (.int (Int32.ofNat (own_sm g 4))), .val (.int (Int32.ofNat (own_cnt g 4))), .unset, .unset, .unset, .unset, .unset, .unset, .unset, .unset, .unset]) P1.q at_170 rfl rfl ?_
        have Kn := K5 T1 _ h1 f P1 (own_stN hf hgk) R1
        rw [e1, e2] at Kn
        exact Kn
      · have hgk : g 4 = true := by rw [eg]; exact own_gY ((W.lt32 (i := 4) (by decide) (by omega)).mp (Decidable.byContradiction ha)) hb
        refine W.g_aload (pc1 := 152) P1.q at_150 rfl rfl rfl ?_
        refine W.g_iconst (pc1 := 153) (v := (4 : Int32)) P1.q at_152 (by decide) rfl ?_
        refine W.g_iconst (pc1 := 154) (v := (1 : Int32)) P1.q at_153 (by decide) rfl ?_
        show W.Go p.tables e below _ (T1.setTop (mkF m 154 #[.val (.int bits), .val (.int sz), .val (.int jd), .val (.int (Int32.ofNat n)), .val (.ref x139), .val (.int (Int32.ofNat (own_cnt g 4))), .val (.int (Int32.ofNat (own_sm g 4))), .unset, .unset, .unset, .unset, .unset, .unset, .unset, .unset, .unset, .unset] [(.int (1 : Int32)), (.int (Int32.ofNat 4)), (.ref x139)]))
        refine P1.stZg (pc1 := 155) R1 (i := 4) ((W.lt32 (i := 4) (by decide) (by omega)).mp (Decidable.byContradiction ha)) (Or.inr (Nat.le_of_eq g139.symm)) W.safe0 at_154 rfl ?_
        intro T164 h164 P164 W164 R164
        refine W.g_iinc (pc1 := 158) (ls2 := #[.val (.int bits), .val (.int sz), .val (.int jd), .val (.int (Int32.ofNat n)), .val (.ref x139), .val (.int ((Int32.ofNat (own_cnt g 4)) + Int32.ofInt 1)), .val (.int (Int32.ofNat (own_sm g 4))), .unset, .unset, .unset, .unset, .unset, .unset, .unset, .unset, .unset, .unset]) P164.q at_155 rfl rfl rfl ?_
        rw [W.succ32]
        show W.Go p.tables e below _ (T164.setTop (mkF m 158 #[.val (.int bits), .val (.int sz), .val (.int jd), .val (.int (Int32.ofNat n)), .val (.ref x139), .val (.int (Int32.ofNat (own_cnt g 4 + 1))), .val (.int (Int32.ofNat (own_sm g 4))), .unset, .unset, .unset, .unset, .unset, .unset, .unset, .unset, .unset, .unset] []))
        refine W.g_iload (pc1 := 160) P164.q at_158 rfl rfl ?_
        refine W.g_iload (pc1 := 162) P164.q at_160 rfl rfl ?_
        refine P164.ldcI (pc1 := 164) (wd hw (k := 85) rfl) at_162 rfl ?_
        refine W.g_imul (pc1 := 165) P164.q at_164 rfl ?_
        refine W.g_iadd (pc1 := 166) P164.q at_165 rfl ?_
        rw [own_smY hgk (by decide), ← own_cntY hgk]
        show W.Go p.tables e below _ (T164.setTop (mkF m 166 #[.val (.int bits), .val (.int sz), .val (.int jd), .val (.int (Int32.ofNat n)), .val (.ref x139), .val (.int (Int32.ofNat (own_cnt g 5))), .val (.int (Int32.ofNat (own_sm g 4))), .unset, .unset, .unset, .unset, .unset, .unset, .unset, .unset, .unset, .unset] [(.int (Int32.ofNat (own_sm g 5)))]))
        refine W.g_istore (pc1 := 168) (ls2 := #[.val (.int bits), .val (.int sz), .val (.int jd), .val (.int (Int32.ofNat n)), .val (.ref x139), .val (.int (Int32.ofNat (own_cnt g 5))), .val (.int (Int32.ofNat (own_sm g 5))), .unset, .unset, .unset, .unset, .unset, .unset, .unset, .unset, .unset, .unset]) P164.q at_166 rfl rfl ?_
        refine W.g_iload (pc1 := 170) P164.q at_168 rfl rfl ?_
        refine W.g_istore (pc1 := 172) (ls2 := #[.val (.int bits), .val (.int sz), .val (.int jd), .val (.int (Int32.ofNat n)), .val (.ref x139), .val (.int (Int32.ofNat (own_cnt g 5))), .val (.int (Int32.ofNat (own_sm g 5))), .val (.int (Int32.ofNat (own_cnt g 5))), .unset, .unset, .unset, .unset, .unset, .unset, .unset, .unset, .unset]) P164.q at_170 rfl rfl ?_
        exact K5 T164 _ h164 _ P164 (own_stY hf hgk) R164
  have K3 : ∀ (T1 : State) (L1 : List Loc) (h1 : Heap) (f : Nat → Int32), W.Pos p l e room_1 s m #[.int bits, .int sz, .int jd] below meth c code Z [] [] h0 x.cls s.vm T1 L1 1 16 h1 → own_st g n 3 f → W.Arg Z h1 x139 k139 .boolean n f → W.Go p.tables e below (W.GN s (Q1 h0.size) room_1) (T1.setTop (mkF m 106 #[.val (.int bits), .val (.int sz), .val (.int jd), .val (.int (Int32.ofNat n)), .val (.ref x139), .val (.int (Int32.ofNat (own_cnt g 3))), .val (.int (Int32.ofNat (own_sm g 3))), .unset, .unset, .unset, .unset, .unset, .unset, .unset, .unset, .unset, .unset] [])) := by
    intro T1 L1 h1 f P1 hf R1
    refine W.g_iloadN (pc1 := 107) P1.q at_106 rfl rfl ?_
    refine W.g_iconst (pc1 := 108) (v := (3 : Int32)) P1.q at_107 (by decide) rfl ?_
    refine W.g_cmp (pc1 := 137) (pc2 := 111) P1.q at_108 (by decide) rfl rfl (fun (ha : ¬ (3 : Int32) < (Int32.ofNat n)) => ?_) (fun (ha : ¬ (¬ (3 : Int32) < (Int32.ofNat n))) => ?_)
    · have hgk : g 3 = false := by rw [eg]; exact own_gN (Nat.le_of_not_lt (fun q => ha ((W.lt32 (i := 3) (by decide) (by omega)).mpr q)))
      have e1 : own_cnt g 4 = own_cnt g 3 := own_cntN hgk
      have e2 : own_sm g 4 = own_sm g 3 := own_smN hgk
      have Kn := K4 T1 _ h1 f P1 (own_stN hf hgk) R1
      rw [e1, e2] at Kn
      exact Kn
    · refine W.g_iloadN (pc1 := 112) P1.q at_111 rfl rfl ?_
      refine W.g_iconst (pc1 := 113) (v := (3 : Int32)) P1.q at_112 (by decide) rfl ?_
      refine W.g_ishr (pc1 := 114) P1.q at_113 rfl ?_
      refine W.g_iconst (pc1 := 115) (v := (1 : Int32)) P1.q at_114 (by decide) rfl ?_
      refine W.g_iand (pc1 := 116) P1.q at_115 rfl ?_
      refine W.g_if (pc1 := 137) (pc2 := 119) P1.q at_116 (by decide) rfl rfl (fun (hb : ((bits >>> ((3 : Int32) &&& 31)) &&& (1 : Int32)) = 0) => ?_) (fun (hb : ¬ (((bits >>> ((3 : Int32) &&& 31)) &&& (1 : Int32)) = 0)) => ?_)
      · have hgk : g 3 = false := by rw [eg]; exact own_g0 hb
        have e1 : own_cnt g 4 = own_cnt g 3 := own_cntN hgk
        have e2 : own_sm g 4 = own_sm g 3 := own_smN hgk
        have Kn := K4 T1 _ h1 f P1 (own_stN hf hgk) R1
        rw [e1, e2] at Kn
        exact Kn
      · have hgk : g 3 = true := by rw [eg]; exact own_gY ((W.lt32 (i := 3) (by decide) (by omega)).mp (Decidable.byContradiction ha)) hb
        refine W.g_aload (pc1 := 121) P1.q at_119 rfl rfl rfl ?_
        refine W.g_iconst (pc1 := 122) (v := (3 : Int32)) P1.q at_121 (by decide) rfl ?_
        refine W.g_iconst (pc1 := 123) (v := (1 : Int32)) P1.q at_122 (by decide) rfl ?_
        show W.Go p.tables e below _ (T1.setTop (mkF m 123 #[.val (.int bits), .val (.int sz), .val (.int jd), .val (.int (Int32.ofNat n)), .val (.ref x139), .val (.int (Int32.ofNat (own_cnt g 3))), .val (.int (Int32.ofNat (own_sm g 3))), .unset, .unset, .unset, .unset, .unset, .unset, .unset, .unset, .unset, .unset] [(.int (1 : Int32)), (.int (Int32.ofNat 3)), (.ref x139)]))
        refine P1.stZg (pc1 := 124) R1 (i := 3) ((W.lt32 (i := 3) (by decide) (by omega)).mp (Decidable.byContradiction ha)) (Or.inr (Nat.le_of_eq g139.symm)) W.safe0 at_123 rfl ?_
        intro T165 h165 P165 W165 R165
        refine W.g_iinc (pc1 := 127) (ls2 := #[.val (.int bits), .val (.int sz), .val (.int jd), .val (.int (Int32.ofNat n)), .val (.ref x139), .val (.int ((Int32.ofNat (own_cnt g 3)) + Int32.ofInt 1)), .val (.int (Int32.ofNat (own_sm g 3))), .unset, .unset, .unset, .unset, .unset, .unset, .unset, .unset, .unset, .unset]) P165.q at_124 rfl rfl rfl ?_
        rw [W.succ32]
        show W.Go p.tables e below _ (T165.setTop (mkF m 127 #[.val (.int bits), .val (.int sz), .val (.int jd), .val (.int (Int32.ofNat n)), .val (.ref x139), .val (.int (Int32.ofNat (own_cnt g 3 + 1))), .val (.int (Int32.ofNat (own_sm g 3))), .unset, .unset, .unset, .unset, .unset, .unset, .unset, .unset, .unset, .unset] []))
        refine W.g_iload (pc1 := 129) P165.q at_127 rfl rfl ?_
        refine W.g_iload (pc1 := 131) P165.q at_129 rfl rfl ?_
        refine P165.ldcI (pc1 := 133) (wd hw (k := 89) rfl) at_131 rfl ?_
        refine W.g_imul (pc1 := 134) P165.q at_133 rfl ?_
        refine W.g_iadd (pc1 := 135) P165.q at_134 rfl ?_
        rw [own_smY hgk (by decide), ← own_cntY hgk]
        show W.Go p.tables e below _ (T165.setTop (mkF m 135 #[.val (.int bits), .val (.int sz), .val (.int jd), .val (.int (Int32.ofNat n)), .val (.ref x139), .val (.int (Int32.ofNat (own_cnt g 4))), .val (.int (Int32.ofNat (own_sm g 3))), .unset, .unset, .unset, .unset, .unset, .unset, .unset, .unset, .unset, .unset] [(.int (Int32.ofNat (own_sm g 4)))]))
        refine W.g_istore (pc1 := 137) (ls2 := #[.val (.int bits), .val (.int sz), .val (.int jd), .val (.int (Int32.ofNat n)), .val (.ref x139), .val (.int (Int32.ofNat (own_cnt g 4))), .val (.int (Int32.ofNat (own_sm g 4))), .unset, .unset, .unset, .unset, .unset, .unset, .unset, .unset, .unset, .unset]) P165.q at_135 rfl rfl ?_
        exact K4 T165 _ h165 _ P165 (own_stY hf hgk) R165
  have K2 : ∀ (T1 : State) (L1 : List Loc) (h1 : Heap) (f : Nat → Int32), W.Pos p l e room_1 s m #[.int bits, .int sz, .int jd] below meth c code Z [] [] h0 x.cls s.vm T1 L1 1 16 h1 → own_st g n 2 f → W.Arg Z h1 x139 k139 .boolean n f → W.Go p.tables e below (W.GN s (Q1 h0.size) room_1) (T1.setTop (mkF m 75 #[.val (.int bits), .val (.int sz), .val (.int jd), .val (.int (Int32.ofNat n)), .val (.ref x139), .val (.int (Int32.ofNat (own_cnt g 2))), .val (.int (Int32.ofNat (own_sm g 2))), .unset, .unset, .unset, .unset, .unset, .unset, .unset, .unset, .unset, .unset] [])) := by
    intro T1 L1 h1 f P1 hf R1
    refine W.g_iloadN (pc1 := 76) P1.q at_75 rfl rfl ?_
    refine W.g_iconst (pc1 := 77) (v := (2 : Int32)) P1.q at_76 (by decide) rfl ?_
    refine W.g_cmp (pc1 := 106) (pc2 := 80) P1.q at_77 (by decide) rfl rfl (fun (ha : ¬ (2 : Int32) < (Int32.ofNat n)) => ?_) (fun (ha : ¬ (¬ (2 : Int32) < (Int32.ofNat n))) => ?_)
    · have hgk : g 2 = false := by rw [eg]; exact own_gN (Nat.le_of_not_lt (fun q => ha ((W.lt32 (i := 2) (by decide) (by omega)).mpr q)))
      have e1 : own_cnt g 3 = own_cnt g 2 := own_cntN hgk
      have e2 : own_sm g 3 = own_sm g 2 := own_smN hgk
      have Kn := K3 T1 _ h1 f P1 (own_stN hf hgk) R1
      rw [e1, e2] at Kn
      exact Kn
    · refine W.g_iloadN (pc1 := 81) P1.q at_80 rfl rfl ?_
      refine W.g_iconst (pc1 := 82) (v := (2 : Int32)) P1.q at_81 (by decide) rfl ?_
      refine W.g_ishr (pc1 := 83) P1.q at_82 rfl ?_
      refine W.g_iconst (pc1 := 84) (v := (1 : Int32)) P1.q at_83 (by decide) rfl ?_
      refine W.g_iand (pc1 := 85) P1.q at_84 rfl ?_
      refine W.g_if (pc1 := 106) (pc2 := 88) P1.q at_85 (by decide) rfl rfl (fun (hb : ((bits >>> ((2 : Int32) &&& 31)) &&& (1 : Int32)) = 0) => ?_) (fun (hb : ¬ (((bits >>> ((2 : Int32) &&& 31)) &&& (1 : Int32)) = 0)) => ?_)
      · have hgk : g 2 = false := by rw [eg]; exact own_g0 hb
        have e1 : own_cnt g 3 = own_cnt g 2 := own_cntN hgk
        have e2 : own_sm g 3 = own_sm g 2 := own_smN hgk
        have Kn := K3 T1 _ h1 f P1 (own_stN hf hgk) R1
        rw [e1, e2] at Kn
        exact Kn
      · have hgk : g 2 = true := by rw [eg]; exact own_gY ((W.lt32 (i := 2) (by decide) (by omega)).mp (Decidable.byContradiction ha)) hb
        refine W.g_aload (pc1 := 90) P1.q at_88 rfl rfl rfl ?_
        refine W.g_iconst (pc1 := 91) (v := (2 : Int32)) P1.q at_90 (by decide) rfl ?_
        refine W.g_iconst (pc1 := 92) (v := (1 : Int32)) P1.q at_91 (by decide) rfl ?_
        show W.Go p.tables e below _ (T1.setTop (mkF m 92 #[.val (.int bits), .val (.int sz), .val (.int jd), .val (.int (Int32.ofNat n)), .val (.ref x139), .val (.int (Int32.ofNat (own_cnt g 2))), .val (.int (Int32.ofNat (own_sm g 2))), .unset, .unset, .unset, .unset, .unset, .unset, .unset, .unset, .unset, .unset] [(.int (1 : Int32)), (.int (Int32.ofNat 2)), (.ref x139)]))
        refine P1.stZg (pc1 := 93) R1 (i := 2) ((W.lt32 (i := 2) (by decide) (by omega)).mp (Decidable.byContradiction ha)) (Or.inr (Nat.le_of_eq g139.symm)) W.safe0 at_92 rfl ?_
        intro T166 h166 P166 W166 R166
        refine W.g_iinc (pc1 := 96) (ls2 := #[.val (.int bits), .val (.int sz), .val (.int jd), .val (.int (Int32.ofNat n)), .val (.ref x139), .val (.int ((Int32.ofNat (own_cnt g 2)) + Int32.ofInt 1)), .val (.int (Int32.ofNat (own_sm g 2))), .unset, .unset, .unset, .unset, .unset, .unset, .unset, .unset, .unset, .unset]) P166.q at_93 rfl rfl rfl ?_
        rw [W.succ32]
        show W.Go p.tables e below _ (T166.setTop (mkF m 96 #[.val (.int bits), .val (.int sz), .val (.int jd), .val (.int (Int32.ofNat n)), .val (.ref x139), .val (.int (Int32.ofNat (own_cnt g 2 + 1))), .val (.int (Int32.ofNat (own_sm g 2))), .unset, .unset, .unset, .unset, .unset, .unset, .unset, .unset, .unset, .unset] []))
        refine W.g_iload (pc1 := 98) P166.q at_96 rfl rfl ?_
        refine W.g_iload (pc1 := 100) P166.q at_98 rfl rfl ?_
        refine P166.ldcI (pc1 := 102) (wd hw (k := 81) rfl) at_100 rfl ?_
        refine W.g_imul (pc1 := 103) P166.q at_102 rfl ?_
        refine W.g_iadd (pc1 := 104) P166.q at_103 rfl ?_
        rw [own_smY hgk (by decide), ← own_cntY hgk]
        show W.Go p.tables e below _ (T166.setTop (mkF m 104 #[.val (.int bits), .val (.int sz), .val (.int jd), .val (.int (Int32.ofNat n)), .val (.ref x139), .val (.int (Int32.ofNat (own_cnt g 3))), .val (.int (Int32.ofNat (own_sm g 2))), .unset, .unset, .unset, .unset, .unset, .unset, .unset, .unset, .unset, .unset] [(.int (Int32.ofNat (own_sm g 3)))]))
        refine W.g_istore (pc1 := 106) (ls2 := #[.val (.int bits), .val (.int sz), .val (.int jd), .val (.int (Int32.ofNat n)), .val (.ref x139), .val (.int (Int32.ofNat (own_cnt g 3))), .val (.int (Int32.ofNat (own_sm g 3))), .unset, .unset, .unset, .unset, .unset, .unset, .unset, .unset, .unset, .unset]) P166.q at_104 rfl rfl ?_
        exact K3 T166 _ h166 _ P166 (own_stY hf hgk) R166
  have K1 : ∀ (T1 : State) (L1 : List Loc) (h1 : Heap) (f : Nat → Int32), W.Pos p l e room_1 s m #[.int bits, .int sz, .int jd] below meth c code Z [] [] h0 x.cls s.vm T1 L1 1 16 h1 → own_st g n 1 f → W.Arg Z h1 x139 k139 .boolean n f → W.Go p.tables e below (W.GN s (Q1 h0.size) room_1) (T1.setTop (mkF m 44 #[.val (.int bits), .val (.int sz), .val (.int jd), .val (.int (Int32.ofNat n)), .val (.ref x139), .val (.int (Int32.ofNat (own_cnt g 1))), .val (.int (Int32.ofNat (own_sm g 1))), .unset, .unset, .unset, .unset, .unset, .unset, .unset, .unset, .unset, .unset] [])) := by
    intro T1 L1 h1 f P1 hf R1
    refine W.g_iloadN (pc1 := 45) P1.q at_44 rfl rfl ?_
    refine W.g_iconst (pc1 := 46) (v := (1 : Int32)) P1.q at_45 (by decide) rfl ?_
    refine W.g_cmp (pc1 := 75) (pc2 := 49) P1.q at_46 (by decide) rfl rfl (fun (ha : ¬ (1 : Int32) < (Int32.ofNat n)) => ?_) (fun (ha : ¬ (¬ (1 : Int32) < (Int32.ofNat n))) => ?_)
    · have hgk : g 1 = false := by rw [eg]; exact own_gN (Nat.le_of_not_lt (fun q => ha ((W.lt32 (i := 1) (by decide) (by omega)).mpr q)))
      have e1 : own_cnt g 2 = own_cnt g 1 := own_cntN hgk
      have e2 : own_sm g 2 = own_sm g 1 := own_smN hgk
      have Kn := K2 T1 _ h1 f P1 (own_stN hf hgk) R1
      rw [e1, e2] at Kn
      exact Kn
    · refine W.g_iloadN (pc1 := 50) P1.q at_49 rfl rfl ?_
      refine W.g_iconst (pc1 := 51) (v := (1 : Int32)) P1.q at_50 (by decide) rfl ?_
      refine W.g_ishr (pc1 := 52) P1.q at_51 rfl ?_
      refine W.g_iconst (pc1 := 53) (v := (1 : Int32)) P1.q at_52 (by decide) rfl ?_
      refine W.g_iand (pc1 := 54) P1.q at_53 rfl ?_
      refine W.g_if (pc1 := 75) (pc2 := 57) P1.q at_54 (by decide) rfl rfl (fun (hb : ((bits >>> ((1 : Int32) &&& 31)) &&& (1 : Int32)) = 0) => ?_) (fun (hb : ¬ (((bits >>> ((1 : Int32) &&& 31)) &&& (1 : Int32)) = 0)) => ?_)
      · have hgk : g 1 = false := by rw [eg]; exact own_g0 hb
        have e1 : own_cnt g 2 = own_cnt g 1 := own_cntN hgk
        have e2 : own_sm g 2 = own_sm g 1 := own_smN hgk
        have Kn := K2 T1 _ h1 f P1 (own_stN hf hgk) R1
        rw [e1, e2] at Kn
        exact Kn
      · have hgk : g 1 = true := by rw [eg]; exact own_gY ((W.lt32 (i := 1) (by decide) (by omega)).mp (Decidable.byContradiction ha)) hb
        refine W.g_aload (pc1 := 59) P1.q at_57 rfl rfl rfl ?_
        refine W.g_iconst (pc1 := 60) (v := (1 : Int32)) P1.q at_59 (by decide) rfl ?_
        refine W.g_iconst (pc1 := 61) (v := (1 : Int32)) P1.q at_60 (by decide) rfl ?_
        show W.Go p.tables e below _ (T1.setTop (mkF m 61 #[.val (.int bits), .val (.int sz), .val (.int jd), .val (.int (Int32.ofNat n)), .val (.ref x139), .val (.int (Int32.ofNat (own_cnt g 1))), .val (.int (Int32.ofNat (own_sm g 1))), .unset, .unset, .unset, .unset, .unset, .unset, .unset, .unset, .unset, .unset] [(.int (1 : Int32)), (.int (Int32.ofNat 1)), (.ref x139)]))
        refine P1.stZg (pc1 := 62) R1 (i := 1) ((W.lt32 (i := 1) (by decide) (by omega)).mp (Decidable.byContradiction ha)) (Or.inr (Nat.le_of_eq g139.symm)) W.safe0 at_61 rfl ?_
        intro T167 h167 P167 W167 R167
        refine W.g_iinc (pc1 := 65) (ls2 := #[.val (.int bits), .val (.int sz), .val (.int jd), .val (.int (Int32.ofNat n)), .val (.ref x139), .val (.int ((Int32.ofNat (own_cnt g 1)) + Int32.ofInt 1)), .val (.int (Int32.ofNat (own_sm g 1))), .unset, .unset, .unset, .unset, .unset, .unset, .unset, .unset, .unset, .unset]) P167.q at_62 rfl rfl rfl ?_
        rw [W.succ32]
        show W.Go p.tables e below _ (T167.setTop (mkF m 65 #[.val (.int bits), .val (.int sz), .val (.int jd), .val (.int (Int32.ofNat n)), .val (.ref x139), .val (.int (Int32.ofNat (own_cnt g 1 + 1))), .val (.int (Int32.ofNat (own_sm g 1))), .unset, .unset, .unset, .unset, .unset, .unset, .unset, .unset, .unset, .unset] []))
        refine W.g_iload (pc1 := 67) P167.q at_65 rfl rfl ?_
        refine W.g_iload (pc1 := 69) P167.q at_67 rfl rfl ?_
        refine P167.ldcI (pc1 := 71) (wd hw (k := 84) rfl) at_69 rfl ?_
        refine W.g_imul (pc1 := 72) P167.q at_71 rfl ?_
        refine W.g_iadd (pc1 := 73) P167.q at_72 rfl ?_
        rw [own_smY hgk (by decide), ← own_cntY hgk]
        show W.Go p.tables e below _ (T167.setTop (mkF m 73 #[.val (.int bits), .val (.int sz), .val (.int jd), .val (.int (Int32.ofNat n)), .val (.ref x139), .val (.int (Int32.ofNat (own_cnt g 2))), .val (.int (Int32.ofNat (own_sm g 1))), .unset, .unset, .unset, .unset, .unset, .unset, .unset, .unset, .unset, .unset] [(.int (Int32.ofNat (own_sm g 2)))]))
        refine W.g_istore (pc1 := 75) (ls2 := #[.val (.int bits), .val (.int sz), .val (.int jd), .val (.int (Int32.ofNat n)), .val (.ref x139), .val (.int (Int32.ofNat (own_cnt g 2))), .val (.int (Int32.ofNat (own_sm g 2))), .unset, .unset, .unset, .unset, .unset, .unset, .unset, .unset, .unset, .unset]) P167.q at_73 rfl rfl ?_
        exact K2 T167 _ h167 _ P167 (own_stY hf hgk) R167
  have K0 : ∀ (T1 : State) (L1 : List Loc) (h1 : Heap) (f : Nat → Int32), W.Pos p l e room_1 s m #[.int bits, .int sz, .int jd] below meth c code Z [] [] h0 x.cls s.vm T1 L1 1 16 h1 → own_st g n 0 f → W.Arg Z h1 x139 k139 .boolean n f → W.Go p.tables e below (W.GN s (Q1 h0.size) room_1) (T1.setTop (mkF m 16 #[.val (.int bits), .val (.int sz), .val (.int jd), .val (.int (Int32.ofNat n)), .val (.ref x139), .val (.int (Int32.ofNat (own_cnt g 0))), .val (.int (Int32.ofNat (own_sm g 0))), .unset, .unset, .unset, .unset, .unset, .unset, .unset, .unset, .unset, .unset] [])) := by
    intro T1 L1 h1 f P1 hf R1
    refine W.g_iloadN (pc1 := 17) P1.q at_16 rfl rfl ?_
    refine W.g_if (pc1 := 44) (pc2 := 20) P1.q at_17 (by decide) rfl rfl (fun (ha : ¬ 0 < (Int32.ofNat n)) => ?_) (fun (ha : ¬ (¬ 0 < (Int32.ofNat n))) => ?_)
    · have hgk : g 0 = false := by rw [eg]; exact own_gN (Nat.le_of_not_lt (fun q => ha ((W.lt32 (i := 0) (by decide) (by omega)).mpr q)))
      have e1 : own_cnt g 1 = own_cnt g 0 := own_cntN hgk
      have e2 : own_sm g 1 = own_sm g 0 := own_smN hgk
      have Kn := K1 T1 _ h1 f P1 (own_stN hf hgk) R1
      rw [e1, e2] at Kn
      exact Kn
    · refine W.g_iloadN (pc1 := 21) P1.q at_20 rfl rfl ?_
      refine W.g_iconst (pc1 := 22) (v := (1 : Int32)) P1.q at_21 (by decide) rfl ?_
      refine W.g_iand (pc1 := 23) P1.q at_22 rfl ?_
      refine W.g_if (pc1 := 44) (pc2 := 26) P1.q at_23 (by decide) rfl rfl (fun (hb : (bits &&& (1 : Int32)) = 0) => ?_) (fun (hb : ¬ ((bits &&& (1 : Int32)) = 0)) => ?_)
      · have hgk : g 0 = false := by rw [eg]; exact own_g0 hb
        have e1 : own_cnt g 1 = own_cnt g 0 := own_cntN hgk
        have e2 : own_sm g 1 = own_sm g 0 := own_smN hgk
        have Kn := K1 T1 _ h1 f P1 (own_stN hf hgk) R1
        rw [e1, e2] at Kn
        exact Kn
      · have hgk : g 0 = true := by rw [eg]; exact own_gY ((W.lt32 (i := 0) (by decide) (by omega)).mp (Decidable.byContradiction ha)) hb
        refine W.g_aload (pc1 := 28) P1.q at_26 rfl rfl rfl ?_
        refine W.g_iconst (pc1 := 29) (v := (0 : Int32)) P1.q at_28 (by decide) rfl ?_
        refine W.g_iconst (pc1 := 30) (v := (1 : Int32)) P1.q at_29 (by decide) rfl ?_
        show W.Go p.tables e below _ (T1.setTop (mkF m 30 #[.val (.int bits), .val (.int sz), .val (.int jd), .val (.int (Int32.ofNat n)), .val (.ref x139), .val (.int (Int32.ofNat (own_cnt g 0))), .val (.int (Int32.ofNat (own_sm g 0))), .unset, .unset, .unset, .unset, .unset, .unset, .unset, .unset, .unset, .unset] [(.int (1 : Int32)), (.int (Int32.ofNat 0)), (.ref x139)]))
        refine P1.stZg (pc1 := 31) R1 (i := 0) ((W.lt32 (i := 0) (by decide) (by omega)).mp (Decidable.byContradiction ha)) (Or.inr (Nat.le_of_eq g139.symm)) W.safe0 at_30 rfl ?_
        intro T168 h168 P168 W168 R168
        refine W.g_iinc (pc1 := 34) (ls2 := #[.val (.int bits), .val (.int sz), .val (.int jd), .val (.int (Int32.ofNat n)), .val (.ref x139), .val (.int ((Int32.ofNat (own_cnt g 0)) + Int32.ofInt 1)), .val (.int (Int32.ofNat (own_sm g 0))), .unset, .unset, .unset, .unset, .unset, .unset, .unset, .unset, .unset, .unset]) P168.q at_31 rfl rfl rfl ?_
        rw [W.succ32]
        show W.Go p.tables e below _ (T168.setTop (mkF m 34 #[.val (.int bits), .val (.int sz), .val (.int jd), .val (.int (Int32.ofNat n)), .val (.ref x139), .val (.int (Int32.ofNat (own_cnt g 0 + 1))), .val (.int (Int32.ofNat (own_sm g 0))), .unset, .unset, .unset, .unset, .unset, .unset, .unset, .unset, .unset, .unset] []))
        refine W.g_iload (pc1 := 36) P168.q at_34 rfl rfl ?_
        refine W.g_iload (pc1 := 38) P168.q at_36 rfl rfl ?_
        refine P168.ldcI (pc1 := 40) (wd hw (k := 80) rfl) at_38 rfl ?_
        refine W.g_imul (pc1 := 41) P168.q at_40 rfl ?_
        refine W.g_iadd (pc1 := 42) P168.q at_41 rfl ?_
        rw [own_smY hgk (by decide), ← own_cntY hgk]
        show W.Go p.tables e below _ (T168.setTop (mkF m 42 #[.val (.int bits), .val (.int sz), .val (.int jd), .val (.int (Int32.ofNat n)), .val (.ref x139), .val (.int (Int32.ofNat (own_cnt g 1))), .val (.int (Int32.ofNat (own_sm g 0))), .unset, .unset, .unset, .unset, .unset, .unset, .unset, .unset, .unset, .unset] [(.int (Int32.ofNat (own_sm g 1)))]))
        refine W.g_istore (pc1 := 44) (ls2 := #[.val (.int bits), .val (.int sz), .val (.int jd), .val (.int (Int32.ofNat n)), .val (.ref x139), .val (.int (Int32.ofNat (own_cnt g 1))), .val (.int (Int32.ofNat (own_sm g 1))), .unset, .unset, .unset, .unset, .unset, .unset, .unset, .unset, .unset, .unset]) P168.q at_42 rfl rfl ?_
        exact K1 T168 _ h168 _ P168 (own_stY hf hgk) R168
  exact K0 _ _ _ _ P139 (fun j hj => (if_neg (Nat.not_lt_zero j)).symm) R0
set_option maxRecDepth 65536 in
set_option maxHeartbeats 40000000 in
theorem comes_1 {Post : Tables → Env → Array Value → State → Outcome → State → Prop} (hpost : ∀ tb e args s v u, (limb_1_1.after args s (.returned v) u = true ∧ limb_1_2.after args s (.returned v) u = true ∧ True) → FrameEnd s (.returned v) u (Jvm.fieldLocs frame_1_writes args s ++ Jvm.arrayLocs frame_1_arrays args s ++ Jvm.staticLocs frame_1_statics s) 24 192 → Post tb e args s (.returned v) u) :
    ArmFor flags0 classFile x code maxLocals ret World_1 tables_1 room_1 Calls_1 rest_1 Pre_1 Post := by
  intro l hfl _ _ p e ha hc hk s m args below hf hA hF happ hP
  obtain ⟨hcalls, hrest, hpre⟩ := hP
  obtain ⟨-, -, -, hnamed, -, -, -, hat⟩ := (Spec.applies_iff hf).mp happ
  obtain ⟨hg, hn⟩ := and_e (Cond.before_iff.mp (show (Jvm.Cond.and given_1 narrow_1).before args s = true from hpre))
  obtain ⟨hcnt, hg0⟩ := and_e hg
  obtain ⟨ga0, hg1⟩ := and_e hg0
  obtain ⟨ga1, hg2⟩ := and_e hg1
  have ga2 := hg2
  obtain ⟨w0, w1, w2, rfl⟩ : ∃ w0 w1 w2 : Value, args = #[w0, w1, w2] := by
    have hs : args.size = 3 := by simpa [Cond.value, given_1] using hcnt
    obtain ⟨L⟩ := args
    match L, hs with
    | [w0, w1, w2], _ => exact ⟨w0, w1, w2, rfl⟩
  have hw := fun d (hd : d ∈ tables_1) => atoms_spec (ws := Jvm.Cond.code x code maxLocals ret :: tables_1) hat d (List.mem_cons_of_mem _ hd)
  obtain ⟨i0, ei0⟩ := is_v ga0
  obtain rfl : w0 = (.int i0) := Option.some.inj ei0
  obtain ⟨i1, ei1⟩ := is_v ga1
  obtain rfl : w1 = (.int i1) := Option.some.inj ei1
  obtain ⟨i2, ei2⟩ := is_v ga2
  obtain rfl : w2 = (.int i2) := Option.some.inj ei2
  have hfit : Fit s := fun {y c} hc i hi => by
    obtain ⟨ha, rfl⟩ := Array.getElem?_eq_some_iff.mp hc
    have q := List.all_eq_true.mp ((Array.all_eq_true_iff_forall_mem.mp hF) _ (Array.getElem_mem ha)) i (List.mem_range.mpr hi)
    simpa [Array.getElem?_eq_getElem hi] using q
  obtain ⟨c0, hn0⟩ := and_e hn
  obtain ⟨c1, hn1⟩ := and_e hn0
  obtain ⟨c2, hn2⟩ := and_e hn1
  obtain ⟨c3, hn3⟩ := and_e hn2
  obtain ⟨c4, hn4⟩ := and_e hn3
  obtain ⟨c5, hn5⟩ := and_e hn4
  obtain ⟨c6, hn6⟩ := and_e hn5
  obtain ⟨c7, hn7⟩ := and_e hn6
  obtain ⟨c8, hn8⟩ := and_e hn7
  obtain ⟨c9, hn9⟩ := and_e hn8
  obtain ⟨c10, hn10⟩ := and_e hn9
  obtain ⟨c11, hn11⟩ := and_e hn10
  obtain ⟨c12, hn12⟩ := and_e hn11
  obtain ⟨c13, hn13⟩ := and_e hn12
  obtain ⟨c14, hn14⟩ := and_e hn13
  obtain ⟨c15, hn15⟩ := and_e hn14
  obtain ⟨c16, hn16⟩ := and_e hn15
  obtain ⟨c17, hn17⟩ := and_e hn16
  obtain ⟨c18, hn18⟩ := and_e hn17
  obtain ⟨c19, hn19⟩ := and_e hn18
  obtain ⟨c20, hn20⟩ := and_e hn19
  obtain ⟨c21, hn21⟩ := and_e hn20
  obtain ⟨c22, hn22⟩ := and_e hn21
  obtain ⟨c23, hn23⟩ := and_e hn22
  obtain ⟨c24, hn24⟩ := and_e hn23
  obtain ⟨c25, hn25⟩ := and_e hn24
  have c26 := hn25
  obtain ⟨va, ea⟩ := arr_v c0
  obtain ⟨p0, e0⟩ := exa_v c3
  obtain ⟨p1, e1⟩ := exa_v c5
  obtain ⟨p2, e2⟩ := exa_v c7
  obtain ⟨p3, e3⟩ := exa_v c9
  obtain ⟨p4, e4⟩ := exa_v c11
  obtain ⟨p5, e5⟩ := exa_v c13
  obtain ⟨kv, Va⟩ := W.arvStart (vs := [.ref p0, .ref p1, .ref p2, .ref p3, .ref p4, .ref p5]) (dv := .null) 6 hfit ea c0 (own_eqI c2) (by decide) rfl (fun i hi => match i, hi with | 0, _ => W.eqRef c4 e0 | 1, _ => W.eqRef c6 e1 | 2, _ => W.eqRef c8 e2 | 3, _ => W.eqRef c10 e3 | 4, _ => W.eqRef c12 e4 | 5, _ => W.eqRef c14 e5 | k + 6, hk => absurd hk (Nat.not_lt.mpr (Nat.le_add_left _ _)))
  have EN : En s s.heap va p0 p1 p2 p3 p4 p5 kv := ⟨Sta.start ea (Or.inr ⟨(wd hw (k := 12) rfl), (wd hw (k := 15) rfl)⟩), Exa.start ea c1, Va, Sta.start e0 (Or.inr ⟨(wd hw (k := 12) rfl), (wd hw (k := 23) rfl)⟩), Sta.start e1 (Or.inr ⟨(wd hw (k := 12) rfl), (wd hw (k := 24) rfl)⟩), Sta.start e2 (Or.inr ⟨(wd hw (k := 12) rfl), (wd hw (k := 25) rfl)⟩), Sta.start e3 (Or.inr ⟨(wd hw (k := 12) rfl), (wd hw (k := 26) rfl)⟩), Sta.start e4 (Or.inr ⟨(wd hw (k := 12) rfl), (wd hw (k := 27) rfl)⟩), Sta.start e5 (Or.inr ⟨(wd hw (k := 12) rfl), (wd hw (k := 28) rfl)⟩), Exa.start e0 c3, Exa.start e1 c5, Exa.start e2 c7, Exa.start e3 c9, Exa.start e4 c11, Exa.start e5 c13, Fld.start ((fld_at e0).symm.trans (own_eqI c15)), Fld.start ((fld_at e1).symm.trans (own_eqI c17)), Fld.start ((fld_at e2).symm.trans (own_eqI c19)), Fld.start ((fld_at e3).symm.trans (own_eqI c21)), Fld.start ((fld_at e4).symm.trans (own_eqI c23)), Fld.start ((fld_at e5).symm.trans (own_eqI c25)), Fld.start ((fld_at e0).symm.trans (own_eqI c16)), Fld.start ((fld_at e1).symm.trans (own_eqI c18)), Fld.start ((fld_at e2).symm.trans (own_eqI c20)), Fld.start ((fld_at e3).symm.trans (own_eqI c22)), Fld.start ((fld_at e4).symm.trans (own_eqI c24)), Fld.start ((fld_at e5).symm.trans (own_eqI c26))⟩
  obtain ⟨n, o, h1, h2, h3, _, L, rfl, ⟨rfl, N⟩, hq⟩ := rm1 l s _ hw i0 i1 i2 va p0 p1 p2 p3 p4 p5 kv s.heap EN p e ha hc hk s m _ below hf ((Spec.applies_iff_loose hf).mp happ).1 ⟨rfl, State.Warmed39.refl s, rfl⟩ trivial
  refine ⟨n, _, h1, h2, h3, hpost _ _ _ _ _ _ ⟨Cond.after_iff.mpr rfl, Cond.after_iff.mpr (eq_i res_at (Term.int_eval (1)) rfl), trivial⟩ ⟨hq.1, hq.2.1, (hq.2.2.sift fun y hy => Or.inr ((N y hy).elim (fun q => nomatch q) id)).mono (by decide) (by decide)⟩⟩
theorem main_1_1 : Claimed_1_1 := comes_1 fun _ _ _ _ _ _ h hF => ⟨h.1, hF⟩
theorem main_1_2 : Claimed_1_2 := comes_1 fun _ _ _ _ _ _ h hF => ⟨h.2.1, hF⟩
end Jvm.Pilot.@@N@@
namespace Jvm.Pilot.@@N@@
open Jvm Jvm.ClassFile Sem Op Lib Jvm.Free Jvm.Stand Jvm.Pilot.@@N@@.Jvm.D
/-! MADE BY PROGRAM (witnessworld.py) out of the Statement's table words and the real class files: 19 classes; the members and pool entries that the words name. The judged class is class 1, her method 1. -/
namespace start1
open Jvm.ClassFile
def u (s : String) : CpInfo := .utf8 (stringToUtf16 s)
/-- a pool by its gaps: so many unusable entries, then the entry; so many at the end -/
def gap : Nat → List CpInfo → List CpInfo
  | 0, r => r
  | n + 1, r => .unusable :: gap n r
def poolList (es : List (Nat × CpInfo)) (last : Nat) : List CpInfo := es.foldr (fun e r => gap e.1 (e.2 :: r)) (gap last [])
def pool (es : List (Nat × CpInfo)) (last : Nat) : Array CpInfo := ⟨poolList es last⟩
def fileOf (pool : Array CpInfo) (this : Nat) (attrs : Array Attribute := #[]) (ms : Array MethodInfo := #[]) (fl : Nat := 33) (sup : Nat := 0) (ifs : Array Nat := #[]) (fds : Array FieldInfo := #[]) : ClassFile where
  minorVersion := 0
  majorVersion := 65
  constantPool := pool
  accessFlags := fl
  thisClass := this
  superClass := sup
  interfaces := ifs
  fields := fds
  methods := ms
  attributes := attrs
def plain (name : String) (sup : Option ClassId) : Class where
  name := name
  kind := .ordinary
  loader := none
  accessFlags := 33
  super := sup
  interfaces := #[]
  cf := none
  fields := #[]
  methods := #[]
  instanceTypes := #[]
  staticTypes := #[]
  resolved := #[]
  callSites := []
  init := .initialized
  statics := none
  mirror := none

def pool0 : Array CpInfo := pool [(5, u "<init>"), (0, u "()V"), (1, .class_ 10), (1, u "java/lang/Object"), (85, u "clone"), (0, u "()Ljava/lang/Object;")] 26

def k0c0 : Code := { maxStack := 0, maxLocals := 1, code := object_method_1_code, exceptionTable := #[], attributes := #[] }
def k0m0 : Method := { name := "<init>", desc := "()V", sig := { parameters := [], returnType := none }, accessFlags := 1, code := some k0c0 }
def k0m1 : Method := { name := "clone", desc := "()Ljava/lang/Object;", sig := { parameters := [], returnType := some (.object "java/lang/Object") }, accessFlags := 260, code := none }
/-- java/lang/Object -/
def k0 : Class := { plain "java/lang/Object" none with
  accessFlags := 33
  interfaces := #[]
  cf := some (fileOf pool0 8 #[] #[{ accessFlags := 1, nameIndex := 5, descriptorIndex := 6, attributes := #[] }, { accessFlags := 260, nameIndex := 96, descriptorIndex := 97, attributes := #[] }] 33 0 #[] #[])
  fields := #[]
  methods := #[k0m0, k0m1]
  instanceTypes := #[]
  staticTypes := #[]
  resolved := Array.replicate 124 none
  statics := none }

def pool1 : Array CpInfo := pool [(2, .class_ 4), (1, u "java/lang/Object"), (0, u "<init>"), (0, u "()V"), (0, .integer 360360), (0, .integer 180180), (0, .integer 120120), (0, .integer 90090), (0, .integer 72072), (0, .integer 60060), (0, .integer 51480), (0, .integer 45045), (0, .integer 40040), (0, .integer 36036), (0, .methodref 18 19), (0, .class_ 20), (0, .nameAndType 21 22), (0, u "java/lang/Math"), (0, u "max"), (0, u "(II)I"), (0, .methodref 24 25), (0, .class_ 26), (0, .nameAndType 27 28), (0, u "com/example/broker/broker/eval/RunMeasures"), (0, u "of"), (0, u "([ZI)Lcom/example/broker/broker/eval/RunMeasures;"), (0, .fieldref 30 31), (0, .class_ 32), (0, .nameAndType 33 34), (0, u "com/example/broker/broker/eval/RunMeasure"), (0, u "MAP"), (0, u "Lcom/example/broker/broker/eval/RunMeasure;"), (0, .methodref 24 36), (0, .nameAndType 37 38), (0, u "value"), (0, u "(Lcom/example/broker/broker/eval/RunMeasure;)D"), (0, .double 4689934550124462080), (1, .double 4562254508917369340), (1, .fieldref 30 44), (0, .nameAndType 45 34), (0, u "P_5"), (0, .double 4617315517961601024), (1, .fieldref 30 49), (0, .nameAndType 50 34), (0, u "P_10"), (0, .double 4621819117588971520), (1, .fieldref 30 54), (0, .nameAndType 55 34), (0, u "P_15"), (0, .double 4624633867356078080), (1, .fieldref 30 59), (0, .nameAndType 60 34), (0, u "P_20"), (0, .double 4626322717216342016), (1, .fieldref 30 64), (0, .nameAndType 65 34), (0, u "P_30"), (0, .double 4629137466983448576), (1, .class_ 69), (0, u "com/example/broker/broker/eval/RunMeasuresOfPinLaw"), (2, u "law"), (0, u "(III)Z")] 5

def k1m0 : Method := { name := "<init>", desc := "()V", sig := { parameters := [], returnType := none }, accessFlags := 1, code := none }
def k1c1 : Code := { maxStack := 6, maxLocals := 17, code := code, exceptionTable := #[], attributes := #[] }
def k1m1 : Method := { name := "law", desc := "(III)Z", sig := { parameters := [.int, .int, .int], returnType := some .boolean }, accessFlags := 9, code := some k1c1 }
/-- com/example/broker/broker/eval/RunMeasuresOfPinLaw -/
def k1 : Class := { plain "com/example/broker/broker/eval/RunMeasuresOfPinLaw" (some 0) with
  accessFlags := 49
  interfaces := #[]
  cf := some (fileOf pool1 68 #[] #[{ accessFlags := 1, nameIndex := 5, descriptorIndex := 6, attributes := #[] }, { accessFlags := 9, nameIndex := 72, descriptorIndex := 73, attributes := #[] }] 49 2 #[] #[])
  fields := #[]
  methods := #[k1m0, k1m1]
  instanceTypes := #[]
  staticTypes := #[]
  resolved := Array.replicate 79 none
  statics := none }

def pool2 : Array CpInfo := pool [(1, .class_ 2), (0, u "java/lang/Math"), (1, .class_ 6), (1, u "java/lang/Object"), (0, u "<init>"), (0, u "()V"), (89, .class_ 100), (1, u "java/lang/Math$RandomNumberGeneratorHolder"), (71, u "negativeZeroFloatBits"), (0, u "J"), (2, u "negativeZeroDoubleBits"), (21, u "max"), (2, u "min"), (43, u "$assertionsDisabled"), (0, u "Z"), (88, u "(II)I"), (2, u "twoToTheDoubleScaleDown"), (0, u "D"), (4, u "twoToTheDoubleScaleUp"), (9, u "E"), (3, u "PI"), (2, u "TAU"), (2, u "DEGREES_TO_RADIANS"), (0, u "RADIANS_TO_DEGREES")] 94

def k2m0 : Method := { name := "<init>", desc := "()V", sig := { parameters := [], returnType := none }, accessFlags := 2, code := none }
def k2c1 : Code := { maxStack := 2, maxLocals := 2, code := jdk_29_method_65_code, exceptionTable := #[], attributes := #[] }
def k2m1 : Method := { name := "max", desc := "(II)I", sig := { parameters := [.int, .int], returnType := some .int }, accessFlags := 9, code := some k2c1 }
def k2c2 : Code := { maxStack := 2, maxLocals := 2, code := jdk_29_method_69_code, exceptionTable := #[], attributes := #[] }
def k2m2 : Method := { name := "min", desc := "(II)I", sig := { parameters := [.int, .int], returnType := some .int }, accessFlags := 9, code := some k2c2 }
/-- java/lang/Math -/
def k2 : Class := { plain "java/lang/Math" (some 0) with
  accessFlags := 49
  interfaces := #[]
  cf := some (fileOf pool2 1 #[.nestMembers #[98]] #[{ accessFlags := 2, nameIndex := 7, descriptorIndex := 8, attributes := #[] }, { accessFlags := 9, nameIndex := 198, descriptorIndex := 335, attributes := #[] }, { accessFlags := 9, nameIndex := 201, descriptorIndex := 335, attributes := #[] }] 49 4 #[] #[{ accessFlags := 25, nameIndex := 354, descriptorIndex := 339, attributes := #[] }, { accessFlags := 25, nameIndex := 358, descriptorIndex := 339, attributes := #[] }, { accessFlags := 25, nameIndex := 361, descriptorIndex := 339, attributes := #[] }, { accessFlags := 26, nameIndex := 364, descriptorIndex := 339, attributes := #[] }, { accessFlags := 26, nameIndex := 365, descriptorIndex := 339, attributes := #[] }, { accessFlags := 26, nameIndex := 172, descriptorIndex := 173, attributes := #[] }, { accessFlags := 26, nameIndex := 176, descriptorIndex := 173, attributes := #[] }, { accessFlags := 8, nameIndex := 344, descriptorIndex := 339, attributes := #[] }, { accessFlags := 8, nameIndex := 338, descriptorIndex := 339, attributes := #[] }, { accessFlags := 4120, nameIndex := 245, descriptorIndex := 246, attributes := #[] }])
  fields := #[{ name := "E", type := .double, accessFlags := 25, slot := 0, constantValue := 0 }, { name := "PI", type := .double, accessFlags := 25, slot := 1, constantValue := 0 }, { name := "TAU", type := .double, accessFlags := 25, slot := 2, constantValue := 0 }, { name := "DEGREES_TO_RADIANS", type := .double, accessFlags := 26, slot := 3, constantValue := 0 }, { name := "RADIANS_TO_DEGREES", type := .double, accessFlags := 26, slot := 4, constantValue := 0 }, { name := "negativeZeroFloatBits", type := .long, accessFlags := 26, slot := 5, constantValue := 0 }, { name := "negativeZeroDoubleBits", type := .long, accessFlags := 26, slot := 6, constantValue := 0 }, { name := "twoToTheDoubleScaleUp", type := .double, accessFlags := 8, slot := 7, constantValue := 0 }, { name := "twoToTheDoubleScaleDown", type := .double, accessFlags := 8, slot := 8, constantValue := 0 }, { name := "$assertionsDisabled", type := .boolean, accessFlags := 4120, slot := 9, constantValue := 0 }]
  methods := #[k2m0, k2m1, k2m2]
  instanceTypes := #[]
  staticTypes := #[.double, .double, .double, .double, .double, .long, .long, .double, .double, .boolean]
  resolved := Array.replicate 460 none
  statics := none }

def pool3 : Array CpInfo := pool [(1, .methodref 2 3), (0, .class_ 4), (0, .nameAndType 5 6), (0, u "java/lang/Object"), (0, u "<init>"), (0, u "()V"), (0, .fieldref 8 9), (0, .class_ 10), (0, .nameAndType 11 12), (0, u "com/example/broker/broker/eval/RunMeasures"), (0, u "values"), (0, u "[D"), (9, .methodref 23 24), (0, .class_ 25), (0, .nameAndType 11 26), (0, u "com/example/broker/broker/eval/RunMeasure"), (0, u "()[Lcom/example/broker/broker/eval/RunMeasure;"), (0, .methodref 23 28), (0, .nameAndType 29 30), (0, u "cutoff"), (0, u "()I"), (0, .methodref 32 33), (0, .class_ 34), (0, .nameAndType 35 36), (0, u "java/lang/Math"), (0, u "min"), (0, u "(II)I"), (0, .methodref 23 38), (0, .nameAndType 39 30), (0, u "ordinal"), (0, .methodref 8 41), (0, .nameAndType 5 42), (0, u "([D)V"), (26, u "of"), (0, u "([ZI)Lcom/example/broker/broker/eval/RunMeasures;"), (12, u "value"), (0, u "(Lcom/example/broker/broker/eval/RunMeasure;)D")] 17

def k3c0 : Code := { maxStack := 2, maxLocals := 2, code := prog_38_method_1_code, exceptionTable := #[], attributes := #[] }
def k3m0 : Method := { name := "<init>", desc := "([D)V", sig := { parameters := [(.array .double)], returnType := none }, accessFlags := 2, code := some k3c0 }
def k3c1 : Code := { maxStack := 6, maxLocals := 14, code := prog_38_method_2_code, exceptionTable := #[], attributes := #[] }
def k3m1 : Method := { name := "of", desc := "([ZI)Lcom/example/broker/broker/eval/RunMeasures;", sig := { parameters := [(.array .boolean), .int], returnType := some (.object "com/example/broker/broker/eval/RunMeasures") }, accessFlags := 9, code := some k3c1 }
def k3c2 : Code := { maxStack := 2, maxLocals := 2, code := prog_38_method_4_code, exceptionTable := #[], attributes := #[] }
def k3m2 : Method := { name := "value", desc := "(Lcom/example/broker/broker/eval/RunMeasure;)D", sig := { parameters := [(.object "com/example/broker/broker/eval/RunMeasure")], returnType := some .double }, accessFlags := 1, code := some k3c2 }
/-- com/example/broker/broker/eval/RunMeasures -/
def k3 : Class := { plain "com/example/broker/broker/eval/RunMeasures" (some 0) with
  accessFlags := 49
  interfaces := #[]
  cf := some (fileOf pool3 8 #[] #[{ accessFlags := 2, nameIndex := 5, descriptorIndex := 42, attributes := #[] }, { accessFlags := 9, nameIndex := 69, descriptorIndex := 70, attributes := #[] }, { accessFlags := 1, nameIndex := 83, descriptorIndex := 84, attributes := #[] }] 49 2 #[] #[{ accessFlags := 18, nameIndex := 11, descriptorIndex := 12, attributes := #[] }])
  fields := #[{ name := "values", type := (.array .double), accessFlags := 18, slot := 0, constantValue := 0 }]
  methods := #[k3m0, k3m1, k3m2]
  instanceTypes := #[(.array .double)]
  staticTypes := #[]
  resolved := Array.replicate 102 none
  statics := none }

def pool4 : Array CpInfo := pool [(1, .class_ 2), (0, u "java/lang/constant/Constable"), (0, .class_ 4), (0, u "java/lang/Object")] 6

/-- java/lang/constant/Constable -/
def k4 : Class := { plain "java/lang/constant/Constable" (some 0) with
  accessFlags := 1537
  interfaces := #[]
  cf := some (fileOf pool4 1 #[] #[] 1537 3 #[] #[])
  fields := #[]
  methods := #[]
  instanceTypes := #[]
  staticTypes := #[]
  resolved := Array.replicate 11 none
  statics := none }

def pool5 : Array CpInfo := pool [(1, .class_ 2), (0, u "java/lang/Comparable"), (0, .class_ 4), (0, u "java/lang/Object")] 7

/-- java/lang/Comparable -/
def k5 : Class := { plain "java/lang/Comparable" (some 0) with
  accessFlags := 1537
  interfaces := #[]
  cf := some (fileOf pool5 1 #[] #[] 1537 3 #[] #[])
  fields := #[]
  methods := #[]
  instanceTypes := #[]
  staticTypes := #[]
  resolved := Array.replicate 12 none
  statics := none }

def pool6 : Array CpInfo := pool [(1, .class_ 2), (0, u "java/io/Serializable"), (0, .class_ 4), (0, u "java/lang/Object")] 2

/-- java/io/Serializable -/
def k6 : Class := { plain "java/io/Serializable" (some 0) with
  accessFlags := 1537
  interfaces := #[]
  cf := some (fileOf pool6 1 #[] #[] 1537 3 #[] #[])
  fields := #[]
  methods := #[]
  instanceTypes := #[]
  staticTypes := #[]
  resolved := Array.replicate 7 none
  statics := none }

def pool7 : Array CpInfo := pool [(2, .class_ 4), (1, u "java/lang/Enum"), (0, u "name"), (0, u "Ljava/lang/String;"), (0, .fieldref 2 8), (0, .nameAndType 9 10), (0, u "ordinal"), (0, u "I"), (1, .class_ 14), (1, u "java/lang/Object"), (4, u "hash"), (86, .class_ 108), (1, u "java/lang/Enum$EnumDesc"), (2, .class_ 112), (0, u "java/lang/constant/Constable"), (0, .class_ 114), (0, u "java/lang/Comparable"), (0, .class_ 116), (0, u "java/io/Serializable"), (9, u "()I")] 77

def k7c0 : Code := { maxStack := 1, maxLocals := 1, code := jdk_37_method_2_code, exceptionTable := #[], attributes := #[] }
def k7m0 : Method := { name := "ordinal", desc := "()I", sig := { parameters := [], returnType := some .int }, accessFlags := 17, code := some k7c0 }
/-- java/lang/Enum -/
def k7 : Class := { plain "java/lang/Enum" (some 0) with
  accessFlags := 1057
  interfaces := #[4, 5, 6]
  cf := some (fileOf pool7 2 #[.nestMembers #[106]] #[{ accessFlags := 17, nameIndex := 9, descriptorIndex := 126, attributes := #[] }] 1057 12 #[111, 113, 115] #[{ accessFlags := 18, nameIndex := 5, descriptorIndex := 6, attributes := #[] }, { accessFlags := 18, nameIndex := 9, descriptorIndex := 10, attributes := #[] }, { accessFlags := 2, nameIndex := 19, descriptorIndex := 10, attributes := #[] }])
  fields := #[{ name := "name", type := (.object "java/lang/String"), accessFlags := 18, slot := 0, constantValue := 0 }, { name := "ordinal", type := .int, accessFlags := 18, slot := 1, constantValue := 0 }, { name := "hash", type := .int, accessFlags := 2, slot := 2, constantValue := 0 }]
  methods := #[k7m0]
  instanceTypes := #[(.object "java/lang/String"), .int, .int]
  staticTypes := #[]
  resolved := Array.replicate 204 none
  statics := none }

def pool8 : Array CpInfo := pool [(1, .class_ 2), (0, u "com/example/broker/broker/eval/RunMeasure"), (2, u "MAP"), (0, u "Lcom/example/broker/broker/eval/RunMeasure;"), (2, u "P_5"), (2, u "P_10"), (2, u "P_15"), (2, u "P_20"), (2, u "P_30"), (0, .fieldref 1 23), (0, .nameAndType 24 25), (0, u "$VALUES"), (0, u "[Lcom/example/broker/broker/eval/RunMeasure;"), (0, .methodref 27 28), (0, .class_ 25), (0, .nameAndType 29 30), (0, u "clone"), (0, u "()Ljava/lang/Object;"), (1, .class_ 34), (1, u "java/lang/Enum"), (8, u "label"), (0, u "Ljava/lang/String;"), (0, .fieldref 1 46), (0, .nameAndType 47 48), (0, u "cutoff"), (0, u "I"), (14, u "()[Lcom/example/broker/broker/eval/RunMeasure;"), (0, u "values"), (6, u "()I")] 5

def k8c0 : Code := { maxStack := 1, maxLocals := 0, code := prog_37_method_1_code, exceptionTable := #[], attributes := #[] }
def k8m0 : Method := { name := "values", desc := "()[Lcom/example/broker/broker/eval/RunMeasure;", sig := { parameters := [], returnType := some (.array (.object "com/example/broker/broker/eval/RunMeasure")) }, accessFlags := 9, code := some k8c0 }
def k8c1 : Code := { maxStack := 1, maxLocals := 1, code := prog_37_method_5_code, exceptionTable := #[], attributes := #[] }
def k8m1 : Method := { name := "cutoff", desc := "()I", sig := { parameters := [], returnType := some .int }, accessFlags := 0, code := some k8c1 }
/-- com/example/broker/broker/eval/RunMeasure -/
def k8 : Class := { plain "com/example/broker/broker/eval/RunMeasure" (some 7) with
  accessFlags := 16433
  interfaces := #[]
  cf := some (fileOf pool8 1 #[] #[{ accessFlags := 9, nameIndex := 64, descriptorIndex := 63, attributes := #[] }, { accessFlags := 0, nameIndex := 47, descriptorIndex := 71, attributes := #[] }] 16433 32 #[] #[{ accessFlags := 16409, nameIndex := 5, descriptorIndex := 6, attributes := #[] }, { accessFlags := 16409, nameIndex := 9, descriptorIndex := 6, attributes := #[] }, { accessFlags := 16409, nameIndex := 12, descriptorIndex := 6, attributes := #[] }, { accessFlags := 16409, nameIndex := 15, descriptorIndex := 6, attributes := #[] }, { accessFlags := 16409, nameIndex := 18, descriptorIndex := 6, attributes := #[] }, { accessFlags := 16409, nameIndex := 21, descriptorIndex := 6, attributes := #[] }, { accessFlags := 18, nameIndex := 43, descriptorIndex := 44, attributes := #[] }, { accessFlags := 18, nameIndex := 47, descriptorIndex := 48, attributes := #[] }, { accessFlags := 4122, nameIndex := 24, descriptorIndex := 25, attributes := #[] }])
  fields := #[{ name := "MAP", type := (.object "com/example/broker/broker/eval/RunMeasure"), accessFlags := 16409, slot := 0, constantValue := 0 }, { name := "P_5", type := (.object "com/example/broker/broker/eval/RunMeasure"), accessFlags := 16409, slot := 1, constantValue := 0 }, { name := "P_10", type := (.object "com/example/broker/broker/eval/RunMeasure"), accessFlags := 16409, slot := 2, constantValue := 0 }, { name := "P_15", type := (.object "com/example/broker/broker/eval/RunMeasure"), accessFlags := 16409, slot := 3, constantValue := 0 }, { name := "P_20", type := (.object "com/example/broker/broker/eval/RunMeasure"), accessFlags := 16409, slot := 4, constantValue := 0 }, { name := "P_30", type := (.object "com/example/broker/broker/eval/RunMeasure"), accessFlags := 16409, slot := 5, constantValue := 0 }, { name := "label", type := (.object "java/lang/String"), accessFlags := 18, slot := 3, constantValue := 0 }, { name := "cutoff", type := .int, accessFlags := 18, slot := 4, constantValue := 0 }, { name := "$VALUES", type := (.array (.object "com/example/broker/broker/eval/RunMeasure")), accessFlags := 4122, slot := 6, constantValue := 0 }]
  methods := #[k8m0, k8m1]
  instanceTypes := #[(.object "java/lang/String"), .int, .int, (.object "java/lang/String"), .int]
  staticTypes := #[(.object "com/example/broker/broker/eval/RunMeasure"), (.object "com/example/broker/broker/eval/RunMeasure"), (.object "com/example/broker/broker/eval/RunMeasure"), (.object "com/example/broker/broker/eval/RunMeasure"), (.object "com/example/broker/broker/eval/RunMeasure"), (.object "com/example/broker/broker/eval/RunMeasure"), (.array (.object "com/example/broker/broker/eval/RunMeasure"))]
  resolved := Array.replicate 77 none
  statics := some 0 }

def pool9 : Array CpInfo := pool [(1, .class_ 2), (0, u "java/lang/Cloneable"), (0, .class_ 4), (0, u "java/lang/Object")] 2

/-- java/lang/Cloneable -/
def k9 : Class := { plain "java/lang/Cloneable" (some 0) with
  accessFlags := 1537
  interfaces := #[]
  cf := some (fileOf pool9 1 #[] #[] 1537 3 #[] #[])
  fields := #[]
  methods := #[]
  instanceTypes := #[]
  staticTypes := #[]
  resolved := Array.replicate 7 none
  statics := none }

/-- the primitive boolean -/
def k10 : Class := { plain "boolean" none with kind := .primitive 'Z', accessFlags := 0x411 }
/-- [Z -/
def k11 : Class := { plain "[Z" (some 0) with kind := .array 10 .boolean, interfaces := #[9, 6], accessFlags := 1041 }

/-- the primitive byte -/
def k12 : Class := { plain "byte" none with kind := .primitive 'B', accessFlags := 0x411 }
/-- [B -/
def k13 : Class := { plain "[B" (some 0) with kind := .array 12 .byte, interfaces := #[9, 6], accessFlags := 1041 }

/-- the primitive double -/
def k14 : Class := { plain "double" none with kind := .primitive 'D', accessFlags := 0x411 }
/-- [D -/
def k15 : Class := { plain "[D" (some 0) with kind := .array 14 .double, interfaces := #[9, 6], accessFlags := 1041 }

/-- the primitive int -/
def k16 : Class := { plain "int" none with kind := .primitive 'I', accessFlags := 0x411 }
/-- [I -/
def k17 : Class := { plain "[I" (some 0) with kind := .array 16 .int, interfaces := #[9, 6], accessFlags := 1041 }

/-- [Lcom/example/broker/broker/eval/RunMeasure; -/
def k18 : Class := { plain "[Lcom/example/broker/broker/eval/RunMeasure;" (some 0) with kind := .array 8 (.object "com/example/broker/broker/eval/RunMeasure"), interfaces := #[9, 6], accessFlags := 1041 }

def heap : Heap := #[{ cls := 8, slots := #[.ref 2, .ref 3, .ref 4, .ref 5, .ref 6, .ref 7, .ref 1], vm := .statics 8 },
  { cls := 18, slots := #[.ref 2, .ref 3, .ref 4, .ref 5, .ref 6, .ref 7], vm := .none },
  { cls := 8, slots := #[.null, .int 0, .int 0, .null, .int 0], vm := .none },
  { cls := 8, slots := #[.null, .int 1, .int 0, .null, .int 5], vm := .none },
  { cls := 8, slots := #[.null, .int 2, .int 0, .null, .int 10], vm := .none },
  { cls := 8, slots := #[.null, .int 3, .int 0, .null, .int 15], vm := .none },
  { cls := 8, slots := #[.null, .int 4, .int 0, .null, .int 20], vm := .none },
  { cls := 8, slots := #[.null, .int 5, .int 0, .null, .int 30], vm := .none }]
def classes : Array Class := #[k0, k1, k2, k3, k4, k5, k6, k7, k8, k9, k10, k11, k12, k13, k14, k15, k16, k17, k18]
def interned : List (Array UInt16 × Addr) := []
def slotsUsed : Nat := 43
def theMethod : MethodId := ⟨1, 1⟩
def args0 : Array Value := #[.int 5, .int 5, .int 5]
def aboutOver (below : List Frame) : State where
  vm := { classes := classes, interned := interned.toArray }
  heap := heap
  slotsUsed := slotsUsed
  threads := #[{ frames := .invoking theMethod args0 :: below }]
def below0 : List Frame := [.native { method := ⟨0, 0⟩, args := #[] }]
def about1 : State := aboutOver below0
def p0 : Program := .bare "" "" ""
def e0 : Env := launch0.env 0 0 0
theorem w_frames : about1.frames = Frame.invoking theMethod args0 :: below0 := rfl
set_option maxRecDepth 65536 in
theorem w_args : argsFit about1.vm theMethod args0 = true := by decide +kernel
set_option maxRecDepth 65536 in
theorem w_heap : heapFits about1 = true := by decide +kernel
set_option maxRecDepth 65536 in
theorem w_runnable : about1.curStatus? = some .runnable := by decide +kernel
set_option maxRecDepth 65536 in
theorem w_alone : about1.alone = true := by decide +kernel
set_option maxRecDepth 65536 in
theorem w_named : about1.methodNamed? x = some theMethod := by decide +kernel
set_option maxRecDepth 65536 in
theorem w_hears : about1.hears theMethod below0 = true := by decide +kernel
set_option maxRecDepth 65536 in
theorem w_ripe : about1.ripe theMethod args0 below0 = true := by decide +kernel
theorem w_running : about1.status = .running := rfl
set_option maxRecDepth 65536 in
theorem w_room : about1.hasRoom e0.platform room_1 = true :=
  launch0.hasRoom_least _ room_1 (by decide +kernel) (by decide +kernel) (by decide +kernel) (by decide +kernel) (by decide +kernel) (by decide +kernel)
theorem allAtoms_all (ts : List Jvm.Cond) (a : Array Jvm.Value) (st : Jvm.State) : (allAtoms ts).before a st = ts.all (fun c => c.before a st) := by
  induction ts with
  | nil => rfl
  | cons c t ih =>
    show (Jvm.Cond.and c (allAtoms t)).before a st = _
    rw [Jvm.Cond.before_and, ih, List.all_cons]
def words1 : List Jvm.Cond := Jvm.Cond.code x code maxLocals ret :: tables_1
/-- a 'code' word, met by the world's own term for the bytes: nothing is compared byte by byte -/
theorem code_word {y : MethodName} {bytes : ByteArray} {mx : Nat} {rt : Option FieldType} {a : Array Value} {s : State} {m : MethodId} {meth : Method} {c : Code} (h1 : s.methodNamed? y = some m) (h2 : s.vm.method? m = some meth) (h3 : meth.code = some c) (h4 : c.code = bytes)
    (h5 : (c.maxLocals == mx && c.exceptionTable.isEmpty && decide (c.maxStack ≤ mostOperands) && decide (meth.sig.returnType = rt) && !meth.locks && decide (parseMethodDescriptor y.desc = some meth.sig)) = true) : (Jvm.Cond.code y bytes mx rt).before a s = true := by
  simp only [Bool.and_eq_true, beq_iff_eq, Bool.not_eq_true', decide_eq_true_eq] at h5
  obtain ⟨⟨⟨⟨⟨g1, g2⟩, g3⟩, g4⟩, g5⟩, g6⟩ := h5
  simp [Cond.before, Cond.holds, Cond.value, h1, h2, h3, h4, g1, g2, g3, g4, g5, g6]
def isCode : Jvm.Cond → Bool
  | .code _ _ _ _ => true
  | _ => false
theorem all_split {L : List Jvm.Cond} {P : Jvm.Cond → Bool} (h1 : L.all (fun c => isCode c || P c) = true) (h2 : ∀ c ∈ L.filter isCode, P c = true) : L.all P = true := by
  refine List.all_eq_true.mpr fun c hc => ?_
  have h := List.all_eq_true.mp h1 c hc
  rcases Bool.eq_false_or_eq_true (isCode c) with hi | hi
  · exact h2 c (List.mem_filter.mpr ⟨hc, hi⟩)
  · simpa [hi] using h
set_option maxRecDepth 65536 in
theorem w_c0 : (Jvm.Cond.code x code maxLocals ret).before args0 about1 = true := code_word (m := ⟨1, 1⟩) (meth := k1m1) (c := k1c1) (by decide +kernel) rfl rfl rfl (by decide +kernel)
set_option maxRecDepth 65536 in
theorem w_c1 : (Jvm.Cond.code ({ cls := "java/lang/Math", name := "max", desc := "(II)I" } : Jvm.MethodName) jdk_29_method_65_code (2 : Nat) (Option.some Jvm.ClassFile.FieldType.int)).before args0 about1 = true := code_word (m := ⟨2, 1⟩) (meth := k2m1) (c := k2c1) (by decide +kernel) rfl rfl rfl (by decide +kernel)
set_option maxRecDepth 65536 in
theorem w_c2 : (Jvm.Cond.code ({ cls := "com/example/broker/broker/eval/RunMeasures", name := "of", desc := "([ZI)Lcom/example/broker/broker/eval/RunMeasures;" } : Jvm.MethodName) prog_38_method_2_code (14 : Nat) (Option.some (Jvm.ClassFile.FieldType.object "com/example/broker/broker/eval/RunMeasures"))).before args0 about1 = true := code_word (m := ⟨3, 1⟩) (meth := k3m1) (c := k3c1) (by decide +kernel) rfl rfl rfl (by decide +kernel)
set_option maxRecDepth 65536 in
theorem w_c3 : (Jvm.Cond.code ({ cls := "com/example/broker/broker/eval/RunMeasure", name := "values", desc := "()[Lcom/example/broker/broker/eval/RunMeasure;" } : Jvm.MethodName) prog_37_method_1_code (0 : Nat) (Option.some (Jvm.ClassFile.FieldType.array (Jvm.ClassFile.FieldType.object "com/example/broker/broker/eval/RunMeasure")))).before args0 about1 = true := code_word (m := ⟨8, 0⟩) (meth := k8m0) (c := k8c0) (by decide +kernel) rfl rfl rfl (by decide +kernel)
set_option maxRecDepth 65536 in
theorem w_c4 : (Jvm.Cond.code ({ cls := "com/example/broker/broker/eval/RunMeasure", name := "cutoff", desc := "()I" } : Jvm.MethodName) prog_37_method_5_code (1 : Nat) (Option.some Jvm.ClassFile.FieldType.int)).before args0 about1 = true := code_word (m := ⟨8, 1⟩) (meth := k8m1) (c := k8c1) (by decide +kernel) rfl rfl rfl (by decide +kernel)
set_option maxRecDepth 65536 in
theorem w_c5 : (Jvm.Cond.code ({ cls := "java/lang/Enum", name := "ordinal", desc := "()I" } : Jvm.MethodName) jdk_37_method_2_code (1 : Nat) (Option.some Jvm.ClassFile.FieldType.int)).before args0 about1 = true := code_word (m := ⟨7, 0⟩) (meth := k7m0) (c := k7c0) (by decide +kernel) rfl rfl rfl (by decide +kernel)
set_option maxRecDepth 65536 in
theorem w_c6 : (Jvm.Cond.code ({ cls := "java/lang/Math", name := "min", desc := "(II)I" } : Jvm.MethodName) jdk_29_method_69_code (2 : Nat) (Option.some Jvm.ClassFile.FieldType.int)).before args0 about1 = true := code_word (m := ⟨2, 2⟩) (meth := k2m2) (c := k2c2) (by decide +kernel) rfl rfl rfl (by decide +kernel)
set_option maxRecDepth 65536 in
theorem w_c7 : (Jvm.Cond.code ({ cls := "com/example/broker/broker/eval/RunMeasures", name := "<init>", desc := "([D)V" } : Jvm.MethodName) prog_38_method_1_code (2 : Nat) (Option.none : Option Jvm.ClassFile.FieldType)).before args0 about1 = true := code_word (m := ⟨3, 0⟩) (meth := k3m0) (c := k3c0) (by decide +kernel) rfl rfl rfl (by decide +kernel)
set_option maxRecDepth 65536 in
theorem w_c8 : (Jvm.Cond.code ({ cls := "java/lang/Object", name := "<init>", desc := "()V" } : Jvm.MethodName) object_method_1_code (1 : Nat) (Option.none : Option Jvm.ClassFile.FieldType)).before args0 about1 = true := code_word (m := ⟨0, 0⟩) (meth := k0m0) (c := k0c0) (by decide +kernel) rfl rfl rfl (by decide +kernel)
set_option maxRecDepth 65536 in
theorem w_c9 : (Jvm.Cond.code ({ cls := "com/example/broker/broker/eval/RunMeasures", name := "value", desc := "(Lcom/example/broker/broker/eval/RunMeasure;)D" } : Jvm.MethodName) prog_38_method_4_code (2 : Nat) (Option.some Jvm.ClassFile.FieldType.double)).before args0 about1 = true := code_word (m := ⟨3, 2⟩) (meth := k3m2) (c := k3c2) (by decide +kernel) rfl rfl rfl (by decide +kernel)
def codes1 : List Jvm.Cond := [Jvm.Cond.code x code maxLocals ret, Jvm.Cond.code ({ cls := "java/lang/Math", name := "max", desc := "(II)I" } : Jvm.MethodName) jdk_29_method_65_code (2 : Nat) (Option.some Jvm.ClassFile.FieldType.int), Jvm.Cond.code ({ cls := "com/example/broker/broker/eval/RunMeasures", name := "of", desc := "([ZI)Lcom/example/broker/broker/eval/RunMeasures;" } : Jvm.MethodName) prog_38_method_2_code (14 : Nat) (Option.some (Jvm.ClassFile.FieldType.object "com/example/broker/broker/eval/RunMeasures")), Jvm.Cond.code ({ cls := "com/example/broker/broker/eval/RunMeasure", name := "values", desc := "()[Lcom/example/broker/broker/eval/RunMeasure;" } : Jvm.MethodName) prog_37_method_1_code (0 : Nat) (Option.some (Jvm.ClassFile.FieldType.array (Jvm.ClassFile.FieldType.object "com/example/broker/broker/eval/RunMeasure"))), Jvm.Cond.code ({ cls := "com/example/broker/broker/eval/RunMeasure", name := "cutoff", desc := "()I" } : Jvm.MethodName) prog_37_method_5_code (1 : Nat) (Option.some Jvm.ClassFile.FieldType.int), Jvm.Cond.code ({ cls := "java/lang/Enum", name := "ordinal", desc := "()I" } : Jvm.MethodName) jdk_37_method_2_code (1 : Nat) (Option.some Jvm.ClassFile.FieldType.int), Jvm.Cond.code ({ cls := "java/lang/Math", name := "min", desc := "(II)I" } : Jvm.MethodName) jdk_29_method_69_code (2 : Nat) (Option.some Jvm.ClassFile.FieldType.int), Jvm.Cond.code ({ cls := "com/example/broker/broker/eval/RunMeasures", name := "<init>", desc := "([D)V" } : Jvm.MethodName) prog_38_method_1_code (2 : Nat) (Option.none : Option Jvm.ClassFile.FieldType), Jvm.Cond.code ({ cls := "java/lang/Object", name := "<init>", desc := "()V" } : Jvm.MethodName) object_method_1_code (1 : Nat) (Option.none : Option Jvm.ClassFile.FieldType), Jvm.Cond.code ({ cls := "com/example/broker/broker/eval/RunMeasures", name := "value", desc := "(Lcom/example/broker/broker/eval/RunMeasure;)D" } : Jvm.MethodName) prog_38_method_4_code (2 : Nat) (Option.some Jvm.ClassFile.FieldType.double)]
set_option maxRecDepth 65536 in
theorem codes_eq : words1.filter isCode = codes1 := rfl
theorem w_codes : ∀ c ∈ words1.filter isCode, c.before args0 about1 = true := by
  rw [codes_eq]
  intro c hc
  simp only [codes1, List.mem_cons, List.not_mem_nil, or_false] at hc
  rcases hc with rfl | rfl | rfl | rfl | rfl | rfl | rfl | rfl | rfl | rfl
  · exact w_c0
  · exact w_c1
  · exact w_c2
  · exact w_c3
  · exact w_c4
  · exact w_c5
  · exact w_c6
  · exact w_c7
  · exact w_c8
  · exact w_c9
set_option maxRecDepth 65536 in
theorem w_t1 : (words1.take 24).all (fun c => isCode c || c.before args0 about1) = true := by decide +kernel
set_option maxRecDepth 65536 in
theorem w_t2 : ((words1.drop 24).take 24).all (fun c => isCode c || c.before args0 about1) = true := by decide +kernel
set_option maxRecDepth 65536 in
theorem w_t3 : (((words1.drop 24).drop 24).take 24).all (fun c => isCode c || c.before args0 about1) = true := by decide +kernel
set_option maxRecDepth 65536 in
theorem w_t4 : (((words1.drop 24).drop 24).drop 24).all (fun c => isCode c || c.before args0 about1) = true := by decide +kernel
theorem w_tables : (allAtoms (Jvm.Cond.code x code maxLocals ret :: tables_1)).before args0 about1 = true := by
  rw [allAtoms_all]
  show words1.all (fun c => c.before args0 about1) = true
  refine all_split ?_ w_codes
  rw [← List.take_append_drop 24 words1, List.all_append, w_t1, ← List.take_append_drop 24 (words1.drop 24), List.all_append, w_t2, ← List.take_append_drop 24 ((words1.drop 24).drop 24), List.all_append, w_t3, w_t4]
  rfl
set_option maxRecDepth 65536 in
theorem w_case : (Jvm.Cond.and given_1 narrow_1).before args0 about1 = true := by decide +kernel
theorem w_applies : (headSpec (Jvm.Cond.code x code maxLocals ret :: tables_1) room_1).applies x e0.platform about1 = true :=
  (Spec.applies_iff w_frames).mpr ⟨w_running, w_runnable, w_alone, w_named, w_hears, w_ripe, w_room, w_tables⟩
theorem atStart : AtStart classFile x code maxLocals ret World_1 tables_1 room_1 Calls_1 rest_1 Pre_1 launch0 p0 e0 about1 theMethod args0 below0 :=
  ⟨lists_1, trivial, launch0.admits_env _ _ _, launch0.least_env, fairChoices_fair.cas, fairChoices_fair.clock, w_frames, w_args, w_heap, w_applies, trivial, trivial, w_case⟩
end start1
theorem witness_1 : WitnessClaimed_1 := ⟨start1.p0, start1.e0, start1.about1, start1.theMethod, start1.args0, start1.below0, start1.atStart⟩
end Jvm.Pilot.@@N@@
