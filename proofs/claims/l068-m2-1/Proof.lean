import JvmDerived
import JvmDerived.Pilot.@@N@@Statement
import JvmDerived.Pilot.@@N@@Code
set_option linter.unusedVariables false
set_option linter.unusedSimpArgs false
namespace Jvm.Pilot.@@N@@
open Jvm Jvm.ClassFile Sem Op Lib Jvm.Free Jvm.Stand Jvm.LawKit Jvm.RoadKit Bundle Jvm.Pilot.@@N@@.Jvm.D
section OwnKit
variable {p : Program} {l : Launch} {e : Env} {R : Room} {s : State} {m : MethodId} {args : Array Value} {below : List Frame} {meth : Method} {c : Code} {T : State} {locs : List Loc} {cells slots : Nat}
variable {Q : Option Value → Heap → List Loc → Prop} {K N : Nat}
/-- from the state U the body comes to its end, and leaves what Q says -/
def own_G (p : Program) (e : Env) (below : List Frame) (s : State) (Q : Option Value → Heap → List Loc → Prop) (K N : Nat) (U : State) : Prop :=
  ∃ s₂ o, Steps p.tables e below U s₂ ∧ s₂.status = .running ∧ Ended s₂ below o ∧ ∃ v L, o = .returned v ∧ Q v s₂.heap L ∧ FrameEnd s o s₂ L K N
theorem own_go {U U' : State} (h : ∀ t, Steps p.tables e below U' t → Steps p.tables e below U t) (k : own_G p e below s Q K N U') : own_G p e below s Q K N U := by
  obtain ⟨s₂, o, h1, r⟩ := k
  exact ⟨s₂, o, h _ h1, r⟩
theorem own_end (X : Stand p l e R s m args below meth c T locs cells slots) {v : Option Value} (hv : meth.sig.returnType = none → v = none) (hlocks : meth.locks = false) {U : State}
    (st : ∀ fs, (∀ (f : JFrame) (acts : List Action), f.method = m → f.locked = none → f.entered = [] → (doReturn e (T.setTop f) acts v).1 = T.setFrames fs) → Steps p.tables e below U (T.setFrames fs))
    (hQ : Q v T.heap locs) (hK : cells ≤ K) (hN : slots ≤ N) : own_G p e below s Q K N U := by
  obtain ⟨fs, hr, hrun, hended, hW, hsame⟩ := X.leave hv hlocks
  exact ⟨_, _, st fs hr, hrun, hended, _, _, rfl, hQ, ⟨_, rfl⟩, hW, hsame.mono hK hN⟩
theorem own_retI (X : Stand p l e R s m args below meth c T locs cells slots) (hx : p.tables.exec = Jvm.exec) {pc : Nat} {Ls : Array Slot} {z : Int32} {rest : List Value} (hret : meth.sig.returnType = some .int) (hlocks : meth.locks = false) (hd : decode c.code pc = .ok (.ireturn, 1))
    {h : Heap} (eT : T.heap = h) (hQ : Q (some (.int z)) h locs) (hK : cells ≤ K) (hN : slots ≤ N) : own_G p e below s Q K N (T.setTop (mkF m pc Ls (.int z :: rest))) :=
  own_end X (fun h => by rw [hret] at h; cases h) hlocks (fun fs hr => retOut X hx hret rfl (Or.inl ⟨rfl, Or.inl rfl, _, rfl⟩) hd hr) (by rw [eT]; exact hQ) hK hN
theorem own_retJ (X : Stand p l e R s m args below meth c T locs cells slots) (hx : p.tables.exec = Jvm.exec) {pc : Nat} {Ls : Array Slot} {z : Int64} {rest : List Value} (hret : meth.sig.returnType = some .long) (hlocks : meth.locks = false) (hd : decode c.code pc = .ok (.lreturn, 1))
    {h : Heap} (eT : T.heap = h) (hQ : Q (some (.long z)) h locs) (hK : cells ≤ K) (hN : slots ≤ N) : own_G p e below s Q K N (T.setTop (mkF m pc Ls (.long z :: rest))) :=
  own_end X (fun h => by rw [hret] at h; cases h) hlocks (fun fs hr => retOut X hx hret rfl (Or.inr (Or.inl ⟨rfl, rfl, _, rfl⟩)) hd hr) (by rw [eT]; exact hQ) hK hN
theorem own_retD (X : Stand p l e R s m args below meth c T locs cells slots) (hx : p.tables.exec = Jvm.exec) {pc : Nat} {Ls : Array Slot} {z : UInt64} {rest : List Value} (hret : meth.sig.returnType = some .double) (hlocks : meth.locks = false) (hd : decode c.code pc = .ok (.dreturn, 1))
    {h : Heap} (eT : T.heap = h) (hQ : Q (some (.double z)) h locs) (hK : cells ≤ K) (hN : slots ≤ N) : own_G p e below s Q K N (T.setTop (mkF m pc Ls (.double z :: rest))) :=
  own_end X (fun h => by rw [hret] at h; cases h) hlocks (fun fs hr => retOut X hx hret rfl (Or.inr (Or.inr (Or.inl ⟨rfl, rfl, _, rfl⟩))) hd hr) (by rw [eT]; exact hQ) hK hN
theorem own_retA {t : FieldType} (ht : t.isReference = true) {w : Value} (hv : w.isRef = true) (X : Stand p l e R s m args below meth c T locs cells slots) (hx : p.tables.exec = Jvm.exec) {pc : Nat} {Ls : Array Slot} {rest : List Value} (hret : meth.sig.returnType = some t) (hlocks : meth.locks = false) (hd : decode c.code pc = .ok (.areturn, 1))
    {h : Heap} (eT : T.heap = h) (hQ : Q (some w) h locs) (hK : cells ≤ K) (hN : slots ≤ N) : own_G p e below s Q K N (T.setTop (mkF m pc Ls (w :: rest))) :=
  own_end X (fun h => by rw [hret] at h; cases h) hlocks (fun fs hr => retOut X hx hret (by cases t <;> first | rfl | (cases ht)) (Or.inr (Or.inr (Or.inr (Or.inr ⟨rfl, ht, hv⟩)))) hd hr) (by rw [eT]; exact hQ) hK hN
theorem own_retN {t : FieldType} (ht : t = .boolean ∨ t = .byte ∨ t = .char ∨ t = .short) (X : Stand p l e R s m args below meth c T locs cells slots) (hx : p.tables.exec = Jvm.exec) {pc : Nat} {Ls : Array Slot} {z : Int32} {rest : List Value} (hret : meth.sig.returnType = some t) (hlocks : meth.locks = false) (hd : decode c.code pc = .ok (.ireturn, 1))
    {h : Heap} (eT : T.heap = h) (hQ : Q (some (.int (nar t z))) h locs) (hK : cells ≤ K) (hN : slots ≤ N) : own_G p e below s Q K N (T.setTop (mkF m pc Ls (.int z :: rest))) :=
  own_end X (fun h => by rw [hret] at h; cases h) hlocks (fun fs hr => retN X hx hret ht hd hr) (by rw [eT]; exact hQ) hK hN
theorem own_ret0 (X : Stand p l e R s m args below meth c T locs cells slots) (hx : p.tables.exec = Jvm.exec) {pc : Nat} {Ls : Array Slot} (hret : meth.sig.returnType = none) (hlocks : meth.locks = false) (hd : decode c.code pc = .ok (.return_, 1))
    {h : Heap} (eT : T.heap = h) (hQ : Q none h locs) (hK : cells ≤ K) (hN : slots ≤ N) : own_G p e below s Q K N (T.setTop (mkF m pc Ls [])) :=
  own_end X (fun _ => rfl) hlocks (fun fs hr => X.returnOut hx hret hd hr) (by rw [eT]; exact hQ) hK hN
theorem own_lrem (X : Stand p l e R s m args below meth c T locs cells slots) (hx : p.tables.exec = Jvm.exec) {g : JFrame} {target : State} (hg : g.method = m) {x y : Int64} {rest : List Value} (hd : decode c.code g.pc = .ok (.lrem, 1)) (hs : g.stack = .long y :: .long x :: rest) (hy : y ≠ 0)
    (hr : Steps p.tables e below (T.setTop { g with pc := g.pc + 1, stack := .long (x % y) :: rest }) target) : Steps p.tables e below (T.setTop g) target :=
  XS.lrem X.here hx hg hd hs hy (by rw [lrem_mod]; exact hr)
theorem own_ic_ltY (X : Stand p l e R s m args below meth c T locs cells slots) (hx : p.tables.exec = Jvm.exec) {pc pc' : Nat} {Ls : Array Slot} {rest : List Value} {o : Int} {x y : Int32} (hd : decode c.code pc = .ok (.if_icmp .lt o, 3)) (ho : 0 ≤ (pc : Int) + o) (hp : ((pc : Int) + o).toNat = pc') (h : x < y) (k : own_G p e below s Q K N (T.setTop (mkF m pc' Ls rest))) : own_G p e below s Q K N (T.setTop (mkF m pc Ls (.int y :: .int x :: rest))) :=
  own_go (fun _ k => XS.icmpYes X.here hx rfl (pc0 := pc) (pc' := pc') rfl hd rfl (tlt h).1 ho hp k) k
theorem own_ic_ltN (X : Stand p l e R s m args below meth c T locs cells slots) (hx : p.tables.exec = Jvm.exec) {pc : Nat} {Ls : Array Slot} {rest : List Value} {o : Int} {x y : Int32} (hd : decode c.code pc = .ok (.if_icmp .lt o, 3)) (h : ¬ (x < y)) (k : own_G p e below s Q K N (T.setTop (mkF m (pc + 3) Ls rest))) : own_G p e below s Q K N (T.setTop (mkF m pc Ls (.int y :: .int x :: rest))) :=
  own_go (fun _ k => XS.icmpNo X.here hx rfl hd rfl (flt h).1 k) k
theorem own_ic_lt (X : Stand p l e R s m args below meth c T locs cells slots) (hx : p.tables.exec = Jvm.exec) {pc pc' : Nat} {Ls : Array Slot} {rest : List Value} {o : Int} {x y : Int32} (hd : decode c.code pc = .ok (.if_icmp .lt o, 3)) (ho : 0 ≤ (pc : Int) + o) (hp : ((pc : Int) + o).toNat = pc') (ky : x < y → own_G p e below s Q K N (T.setTop (mkF m pc' Ls rest))) (kn : ¬ (x < y) → own_G p e below s Q K N (T.setTop (mkF m (pc + 3) Ls rest))) : own_G p e below s Q K N (T.setTop (mkF m pc Ls (.int y :: .int x :: rest))) := by
  by_cases h : x < y
  · exact own_ic_ltY X hx hd ho hp h (ky h)
  · exact own_ic_ltN X hx hd h (kn h)
theorem own_if_ltY (X : Stand p l e R s m args below meth c T locs cells slots) (hx : p.tables.exec = Jvm.exec) {pc pc' : Nat} {Ls : Array Slot} {rest : List Value} {o : Int} {x : Int32} (hd : decode c.code pc = .ok (.ifCond .lt o, 3)) (ho : 0 ≤ (pc : Int) + o) (hp : ((pc : Int) + o).toNat = pc') (h : x < 0) (k : own_G p e below s Q K N (T.setTop (mkF m pc' Ls rest))) : own_G p e below s Q K N (T.setTop (mkF m pc Ls (.int x :: rest))) :=
  own_go (fun _ k => XS.ifYes X.here hx rfl (pc0 := pc) (pc' := pc') rfl hd rfl ((if0 _ _).trans (tlt h).1) ho hp k) k
theorem own_if_ltN (X : Stand p l e R s m args below meth c T locs cells slots) (hx : p.tables.exec = Jvm.exec) {pc : Nat} {Ls : Array Slot} {rest : List Value} {o : Int} {x : Int32} (hd : decode c.code pc = .ok (.ifCond .lt o, 3)) (h : ¬ (x < 0)) (k : own_G p e below s Q K N (T.setTop (mkF m (pc + 3) Ls rest))) : own_G p e below s Q K N (T.setTop (mkF m pc Ls (.int x :: rest))) :=
  own_go (fun _ k => XS.ifNo X.here hx rfl hd rfl ((if0 _ _).trans (flt h).1) k) k
theorem own_if_lt (X : Stand p l e R s m args below meth c T locs cells slots) (hx : p.tables.exec = Jvm.exec) {pc pc' : Nat} {Ls : Array Slot} {rest : List Value} {o : Int} {x : Int32} (hd : decode c.code pc = .ok (.ifCond .lt o, 3)) (ho : 0 ≤ (pc : Int) + o) (hp : ((pc : Int) + o).toNat = pc') (ky : x < 0 → own_G p e below s Q K N (T.setTop (mkF m pc' Ls rest))) (kn : ¬ (x < 0) → own_G p e below s Q K N (T.setTop (mkF m (pc + 3) Ls rest))) : own_G p e below s Q K N (T.setTop (mkF m pc Ls (.int x :: rest))) := by
  by_cases h : x < 0
  · exact own_if_ltY X hx hd ho hp h (ky h)
  · exact own_if_ltN X hx hd h (kn h)
theorem own_ic_geY (X : Stand p l e R s m args below meth c T locs cells slots) (hx : p.tables.exec = Jvm.exec) {pc pc' : Nat} {Ls : Array Slot} {rest : List Value} {o : Int} {x y : Int32} (hd : decode c.code pc = .ok (.if_icmp .ge o, 3)) (ho : 0 ≤ (pc : Int) + o) (hp : ((pc : Int) + o).toNat = pc') (h : ¬ (x < y)) (k : own_G p e below s Q K N (T.setTop (mkF m pc' Ls rest))) : own_G p e below s Q K N (T.setTop (mkF m pc Ls (.int y :: .int x :: rest))) :=
  own_go (fun _ k => XS.icmpYes X.here hx rfl (pc0 := pc) (pc' := pc') rfl hd rfl (flt h).2.1 ho hp k) k
theorem own_ic_geN (X : Stand p l e R s m args below meth c T locs cells slots) (hx : p.tables.exec = Jvm.exec) {pc : Nat} {Ls : Array Slot} {rest : List Value} {o : Int} {x y : Int32} (hd : decode c.code pc = .ok (.if_icmp .ge o, 3)) (h : x < y) (k : own_G p e below s Q K N (T.setTop (mkF m (pc + 3) Ls rest))) : own_G p e below s Q K N (T.setTop (mkF m pc Ls (.int y :: .int x :: rest))) :=
  own_go (fun _ k => XS.icmpNo X.here hx rfl hd rfl (tlt h).2.1 k) k
theorem own_ic_ge (X : Stand p l e R s m args below meth c T locs cells slots) (hx : p.tables.exec = Jvm.exec) {pc pc' : Nat} {Ls : Array Slot} {rest : List Value} {o : Int} {x y : Int32} (hd : decode c.code pc = .ok (.if_icmp .ge o, 3)) (ho : 0 ≤ (pc : Int) + o) (hp : ((pc : Int) + o).toNat = pc') (ky : ¬ (x < y) → own_G p e below s Q K N (T.setTop (mkF m pc' Ls rest))) (kn : x < y → own_G p e below s Q K N (T.setTop (mkF m (pc + 3) Ls rest))) : own_G p e below s Q K N (T.setTop (mkF m pc Ls (.int y :: .int x :: rest))) := by
  by_cases h : x < y
  · exact own_ic_geN X hx hd h (kn h)
  · exact own_ic_geY X hx hd ho hp h (ky h)
theorem own_if_geY (X : Stand p l e R s m args below meth c T locs cells slots) (hx : p.tables.exec = Jvm.exec) {pc pc' : Nat} {Ls : Array Slot} {rest : List Value} {o : Int} {x : Int32} (hd : decode c.code pc = .ok (.ifCond .ge o, 3)) (ho : 0 ≤ (pc : Int) + o) (hp : ((pc : Int) + o).toNat = pc') (h : ¬ (x < 0)) (k : own_G p e below s Q K N (T.setTop (mkF m pc' Ls rest))) : own_G p e below s Q K N (T.setTop (mkF m pc Ls (.int x :: rest))) :=
  own_go (fun _ k => XS.ifYes X.here hx rfl (pc0 := pc) (pc' := pc') rfl hd rfl ((if0 _ _).trans (flt h).2.1) ho hp k) k
theorem own_if_geN (X : Stand p l e R s m args below meth c T locs cells slots) (hx : p.tables.exec = Jvm.exec) {pc : Nat} {Ls : Array Slot} {rest : List Value} {o : Int} {x : Int32} (hd : decode c.code pc = .ok (.ifCond .ge o, 3)) (h : x < 0) (k : own_G p e below s Q K N (T.setTop (mkF m (pc + 3) Ls rest))) : own_G p e below s Q K N (T.setTop (mkF m pc Ls (.int x :: rest))) :=
  own_go (fun _ k => XS.ifNo X.here hx rfl hd rfl ((if0 _ _).trans (tlt h).2.1) k) k
theorem own_if_ge (X : Stand p l e R s m args below meth c T locs cells slots) (hx : p.tables.exec = Jvm.exec) {pc pc' : Nat} {Ls : Array Slot} {rest : List Value} {o : Int} {x : Int32} (hd : decode c.code pc = .ok (.ifCond .ge o, 3)) (ho : 0 ≤ (pc : Int) + o) (hp : ((pc : Int) + o).toNat = pc') (ky : ¬ (x < 0) → own_G p e below s Q K N (T.setTop (mkF m pc' Ls rest))) (kn : x < 0 → own_G p e below s Q K N (T.setTop (mkF m (pc + 3) Ls rest))) : own_G p e below s Q K N (T.setTop (mkF m pc Ls (.int x :: rest))) := by
  by_cases h : x < 0
  · exact own_if_geN X hx hd h (kn h)
  · exact own_if_geY X hx hd ho hp h (ky h)
theorem own_ic_gtY (X : Stand p l e R s m args below meth c T locs cells slots) (hx : p.tables.exec = Jvm.exec) {pc pc' : Nat} {Ls : Array Slot} {rest : List Value} {o : Int} {x y : Int32} (hd : decode c.code pc = .ok (.if_icmp .gt o, 3)) (ho : 0 ≤ (pc : Int) + o) (hp : ((pc : Int) + o).toNat = pc') (h : y < x) (k : own_G p e below s Q K N (T.setTop (mkF m pc' Ls rest))) : own_G p e below s Q K N (T.setTop (mkF m pc Ls (.int y :: .int x :: rest))) :=
  own_go (fun _ k => XS.icmpYes X.here hx rfl (pc0 := pc) (pc' := pc') rfl hd rfl (tlt h).2.2.1 ho hp k) k
theorem own_ic_gtN (X : Stand p l e R s m args below meth c T locs cells slots) (hx : p.tables.exec = Jvm.exec) {pc : Nat} {Ls : Array Slot} {rest : List Value} {o : Int} {x y : Int32} (hd : decode c.code pc = .ok (.if_icmp .gt o, 3)) (h : ¬ (y < x)) (k : own_G p e below s Q K N (T.setTop (mkF m (pc + 3) Ls rest))) : own_G p e below s Q K N (T.setTop (mkF m pc Ls (.int y :: .int x :: rest))) :=
  own_go (fun _ k => XS.icmpNo X.here hx rfl hd rfl (flt h).2.2.1 k) k
theorem own_ic_gt (X : Stand p l e R s m args below meth c T locs cells slots) (hx : p.tables.exec = Jvm.exec) {pc pc' : Nat} {Ls : Array Slot} {rest : List Value} {o : Int} {x y : Int32} (hd : decode c.code pc = .ok (.if_icmp .gt o, 3)) (ho : 0 ≤ (pc : Int) + o) (hp : ((pc : Int) + o).toNat = pc') (ky : y < x → own_G p e below s Q K N (T.setTop (mkF m pc' Ls rest))) (kn : ¬ (y < x) → own_G p e below s Q K N (T.setTop (mkF m (pc + 3) Ls rest))) : own_G p e below s Q K N (T.setTop (mkF m pc Ls (.int y :: .int x :: rest))) := by
  by_cases h : y < x
  · exact own_ic_gtY X hx hd ho hp h (ky h)
  · exact own_ic_gtN X hx hd h (kn h)
theorem own_if_gtY (X : Stand p l e R s m args below meth c T locs cells slots) (hx : p.tables.exec = Jvm.exec) {pc pc' : Nat} {Ls : Array Slot} {rest : List Value} {o : Int} {x : Int32} (hd : decode c.code pc = .ok (.ifCond .gt o, 3)) (ho : 0 ≤ (pc : Int) + o) (hp : ((pc : Int) + o).toNat = pc') (h : 0 < x) (k : own_G p e below s Q K N (T.setTop (mkF m pc' Ls rest))) : own_G p e below s Q K N (T.setTop (mkF m pc Ls (.int x :: rest))) :=
  own_go (fun _ k => XS.ifYes X.here hx rfl (pc0 := pc) (pc' := pc') rfl hd rfl ((if0 _ _).trans (tlt h).2.2.1) ho hp k) k
theorem own_if_gtN (X : Stand p l e R s m args below meth c T locs cells slots) (hx : p.tables.exec = Jvm.exec) {pc : Nat} {Ls : Array Slot} {rest : List Value} {o : Int} {x : Int32} (hd : decode c.code pc = .ok (.ifCond .gt o, 3)) (h : ¬ (0 < x)) (k : own_G p e below s Q K N (T.setTop (mkF m (pc + 3) Ls rest))) : own_G p e below s Q K N (T.setTop (mkF m pc Ls (.int x :: rest))) :=
  own_go (fun _ k => XS.ifNo X.here hx rfl hd rfl ((if0 _ _).trans (flt h).2.2.1) k) k
theorem own_if_gt (X : Stand p l e R s m args below meth c T locs cells slots) (hx : p.tables.exec = Jvm.exec) {pc pc' : Nat} {Ls : Array Slot} {rest : List Value} {o : Int} {x : Int32} (hd : decode c.code pc = .ok (.ifCond .gt o, 3)) (ho : 0 ≤ (pc : Int) + o) (hp : ((pc : Int) + o).toNat = pc') (ky : 0 < x → own_G p e below s Q K N (T.setTop (mkF m pc' Ls rest))) (kn : ¬ (0 < x) → own_G p e below s Q K N (T.setTop (mkF m (pc + 3) Ls rest))) : own_G p e below s Q K N (T.setTop (mkF m pc Ls (.int x :: rest))) := by
  by_cases h : 0 < x
  · exact own_if_gtY X hx hd ho hp h (ky h)
  · exact own_if_gtN X hx hd h (kn h)
theorem own_ic_leY (X : Stand p l e R s m args below meth c T locs cells slots) (hx : p.tables.exec = Jvm.exec) {pc pc' : Nat} {Ls : Array Slot} {rest : List Value} {o : Int} {x y : Int32} (hd : decode c.code pc = .ok (.if_icmp .le o, 3)) (ho : 0 ≤ (pc : Int) + o) (hp : ((pc : Int) + o).toNat = pc') (h : ¬ (y < x)) (k : own_G p e below s Q K N (T.setTop (mkF m pc' Ls rest))) : own_G p e below s Q K N (T.setTop (mkF m pc Ls (.int y :: .int x :: rest))) :=
  own_go (fun _ k => XS.icmpYes X.here hx rfl (pc0 := pc) (pc' := pc') rfl hd rfl (flt h).2.2.2 ho hp k) k
theorem own_ic_leN (X : Stand p l e R s m args below meth c T locs cells slots) (hx : p.tables.exec = Jvm.exec) {pc : Nat} {Ls : Array Slot} {rest : List Value} {o : Int} {x y : Int32} (hd : decode c.code pc = .ok (.if_icmp .le o, 3)) (h : y < x) (k : own_G p e below s Q K N (T.setTop (mkF m (pc + 3) Ls rest))) : own_G p e below s Q K N (T.setTop (mkF m pc Ls (.int y :: .int x :: rest))) :=
  own_go (fun _ k => XS.icmpNo X.here hx rfl hd rfl (tlt h).2.2.2 k) k
theorem own_ic_le (X : Stand p l e R s m args below meth c T locs cells slots) (hx : p.tables.exec = Jvm.exec) {pc pc' : Nat} {Ls : Array Slot} {rest : List Value} {o : Int} {x y : Int32} (hd : decode c.code pc = .ok (.if_icmp .le o, 3)) (ho : 0 ≤ (pc : Int) + o) (hp : ((pc : Int) + o).toNat = pc') (ky : ¬ (y < x) → own_G p e below s Q K N (T.setTop (mkF m pc' Ls rest))) (kn : y < x → own_G p e below s Q K N (T.setTop (mkF m (pc + 3) Ls rest))) : own_G p e below s Q K N (T.setTop (mkF m pc Ls (.int y :: .int x :: rest))) := by
  by_cases h : y < x
  · exact own_ic_leN X hx hd h (kn h)
  · exact own_ic_leY X hx hd ho hp h (ky h)
theorem own_if_leY (X : Stand p l e R s m args below meth c T locs cells slots) (hx : p.tables.exec = Jvm.exec) {pc pc' : Nat} {Ls : Array Slot} {rest : List Value} {o : Int} {x : Int32} (hd : decode c.code pc = .ok (.ifCond .le o, 3)) (ho : 0 ≤ (pc : Int) + o) (hp : ((pc : Int) + o).toNat = pc') (h : ¬ (0 < x)) (k : own_G p e below s Q K N (T.setTop (mkF m pc' Ls rest))) : own_G p e below s Q K N (T.setTop (mkF m pc Ls (.int x :: rest))) :=
  own_go (fun _ k => XS.ifYes X.here hx rfl (pc0 := pc) (pc' := pc') rfl hd rfl ((if0 _ _).trans (flt h).2.2.2) ho hp k) k
theorem own_if_leN (X : Stand p l e R s m args below meth c T locs cells slots) (hx : p.tables.exec = Jvm.exec) {pc : Nat} {Ls : Array Slot} {rest : List Value} {o : Int} {x : Int32} (hd : decode c.code pc = .ok (.ifCond .le o, 3)) (h : 0 < x) (k : own_G p e below s Q K N (T.setTop (mkF m (pc + 3) Ls rest))) : own_G p e below s Q K N (T.setTop (mkF m pc Ls (.int x :: rest))) :=
  own_go (fun _ k => XS.ifNo X.here hx rfl hd rfl ((if0 _ _).trans (tlt h).2.2.2) k) k
theorem own_if_le (X : Stand p l e R s m args below meth c T locs cells slots) (hx : p.tables.exec = Jvm.exec) {pc pc' : Nat} {Ls : Array Slot} {rest : List Value} {o : Int} {x : Int32} (hd : decode c.code pc = .ok (.ifCond .le o, 3)) (ho : 0 ≤ (pc : Int) + o) (hp : ((pc : Int) + o).toNat = pc') (ky : ¬ (0 < x) → own_G p e below s Q K N (T.setTop (mkF m pc' Ls rest))) (kn : 0 < x → own_G p e below s Q K N (T.setTop (mkF m (pc + 3) Ls rest))) : own_G p e below s Q K N (T.setTop (mkF m pc Ls (.int x :: rest))) := by
  by_cases h : 0 < x
  · exact own_if_leN X hx hd h (kn h)
  · exact own_if_leY X hx hd ho hp h (ky h)
theorem own_ic_eqY (X : Stand p l e R s m args below meth c T locs cells slots) (hx : p.tables.exec = Jvm.exec) {pc pc' : Nat} {Ls : Array Slot} {rest : List Value} {o : Int} {x y : Int32} (hd : decode c.code pc = .ok (.if_icmp .eq o, 3)) (ho : 0 ≤ (pc : Int) + o) (hp : ((pc : Int) + o).toNat = pc') (h : x = y) (k : own_G p e below s Q K N (T.setTop (mkF m pc' Ls rest))) : own_G p e below s Q K N (T.setTop (mkF m pc Ls (.int y :: .int x :: rest))) :=
  own_go (fun _ k => XS.icmpYes X.here hx rfl (pc0 := pc) (pc' := pc') rfl hd rfl (teq h).1 ho hp k) k
theorem own_ic_eqN (X : Stand p l e R s m args below meth c T locs cells slots) (hx : p.tables.exec = Jvm.exec) {pc : Nat} {Ls : Array Slot} {rest : List Value} {o : Int} {x y : Int32} (hd : decode c.code pc = .ok (.if_icmp .eq o, 3)) (h : ¬ (x = y)) (k : own_G p e below s Q K N (T.setTop (mkF m (pc + 3) Ls rest))) : own_G p e below s Q K N (T.setTop (mkF m pc Ls (.int y :: .int x :: rest))) :=
  own_go (fun _ k => XS.icmpNo X.here hx rfl hd rfl (feq h).1 k) k
theorem own_ic_eq (X : Stand p l e R s m args below meth c T locs cells slots) (hx : p.tables.exec = Jvm.exec) {pc pc' : Nat} {Ls : Array Slot} {rest : List Value} {o : Int} {x y : Int32} (hd : decode c.code pc = .ok (.if_icmp .eq o, 3)) (ho : 0 ≤ (pc : Int) + o) (hp : ((pc : Int) + o).toNat = pc') (ky : x = y → own_G p e below s Q K N (T.setTop (mkF m pc' Ls rest))) (kn : ¬ (x = y) → own_G p e below s Q K N (T.setTop (mkF m (pc + 3) Ls rest))) : own_G p e below s Q K N (T.setTop (mkF m pc Ls (.int y :: .int x :: rest))) := by
  by_cases h : x = y
  · exact own_ic_eqY X hx hd ho hp h (ky h)
  · exact own_ic_eqN X hx hd h (kn h)
theorem own_if_eqY (X : Stand p l e R s m args below meth c T locs cells slots) (hx : p.tables.exec = Jvm.exec) {pc pc' : Nat} {Ls : Array Slot} {rest : List Value} {o : Int} {x : Int32} (hd : decode c.code pc = .ok (.ifCond .eq o, 3)) (ho : 0 ≤ (pc : Int) + o) (hp : ((pc : Int) + o).toNat = pc') (h : x = 0) (k : own_G p e below s Q K N (T.setTop (mkF m pc' Ls rest))) : own_G p e below s Q K N (T.setTop (mkF m pc Ls (.int x :: rest))) :=
  own_go (fun _ k => XS.ifYes X.here hx rfl (pc0 := pc) (pc' := pc') rfl hd rfl ((if0 _ _).trans (teq h).1) ho hp k) k
theorem own_if_eqN (X : Stand p l e R s m args below meth c T locs cells slots) (hx : p.tables.exec = Jvm.exec) {pc : Nat} {Ls : Array Slot} {rest : List Value} {o : Int} {x : Int32} (hd : decode c.code pc = .ok (.ifCond .eq o, 3)) (h : ¬ (x = 0)) (k : own_G p e below s Q K N (T.setTop (mkF m (pc + 3) Ls rest))) : own_G p e below s Q K N (T.setTop (mkF m pc Ls (.int x :: rest))) :=
  own_go (fun _ k => XS.ifNo X.here hx rfl hd rfl ((if0 _ _).trans (feq h).1) k) k
theorem own_if_eq (X : Stand p l e R s m args below meth c T locs cells slots) (hx : p.tables.exec = Jvm.exec) {pc pc' : Nat} {Ls : Array Slot} {rest : List Value} {o : Int} {x : Int32} (hd : decode c.code pc = .ok (.ifCond .eq o, 3)) (ho : 0 ≤ (pc : Int) + o) (hp : ((pc : Int) + o).toNat = pc') (ky : x = 0 → own_G p e below s Q K N (T.setTop (mkF m pc' Ls rest))) (kn : ¬ (x = 0) → own_G p e below s Q K N (T.setTop (mkF m (pc + 3) Ls rest))) : own_G p e below s Q K N (T.setTop (mkF m pc Ls (.int x :: rest))) := by
  by_cases h : x = 0
  · exact own_if_eqY X hx hd ho hp h (ky h)
  · exact own_if_eqN X hx hd h (kn h)
theorem own_ic_neY (X : Stand p l e R s m args below meth c T locs cells slots) (hx : p.tables.exec = Jvm.exec) {pc pc' : Nat} {Ls : Array Slot} {rest : List Value} {o : Int} {x y : Int32} (hd : decode c.code pc = .ok (.if_icmp .ne o, 3)) (ho : 0 ≤ (pc : Int) + o) (hp : ((pc : Int) + o).toNat = pc') (h : ¬ (x = y)) (k : own_G p e below s Q K N (T.setTop (mkF m pc' Ls rest))) : own_G p e below s Q K N (T.setTop (mkF m pc Ls (.int y :: .int x :: rest))) :=
  own_go (fun _ k => XS.icmpYes X.here hx rfl (pc0 := pc) (pc' := pc') rfl hd rfl (feq h).2 ho hp k) k
theorem own_ic_neN (X : Stand p l e R s m args below meth c T locs cells slots) (hx : p.tables.exec = Jvm.exec) {pc : Nat} {Ls : Array Slot} {rest : List Value} {o : Int} {x y : Int32} (hd : decode c.code pc = .ok (.if_icmp .ne o, 3)) (h : x = y) (k : own_G p e below s Q K N (T.setTop (mkF m (pc + 3) Ls rest))) : own_G p e below s Q K N (T.setTop (mkF m pc Ls (.int y :: .int x :: rest))) :=
  own_go (fun _ k => XS.icmpNo X.here hx rfl hd rfl (teq h).2 k) k
theorem own_ic_ne (X : Stand p l e R s m args below meth c T locs cells slots) (hx : p.tables.exec = Jvm.exec) {pc pc' : Nat} {Ls : Array Slot} {rest : List Value} {o : Int} {x y : Int32} (hd : decode c.code pc = .ok (.if_icmp .ne o, 3)) (ho : 0 ≤ (pc : Int) + o) (hp : ((pc : Int) + o).toNat = pc') (ky : ¬ (x = y) → own_G p e below s Q K N (T.setTop (mkF m pc' Ls rest))) (kn : x = y → own_G p e below s Q K N (T.setTop (mkF m (pc + 3) Ls rest))) : own_G p e below s Q K N (T.setTop (mkF m pc Ls (.int y :: .int x :: rest))) := by
  by_cases h : x = y
  · exact own_ic_neN X hx hd h (kn h)
  · exact own_ic_neY X hx hd ho hp h (ky h)
theorem own_if_neY (X : Stand p l e R s m args below meth c T locs cells slots) (hx : p.tables.exec = Jvm.exec) {pc pc' : Nat} {Ls : Array Slot} {rest : List Value} {o : Int} {x : Int32} (hd : decode c.code pc = .ok (.ifCond .ne o, 3)) (ho : 0 ≤ (pc : Int) + o) (hp : ((pc : Int) + o).toNat = pc') (h : ¬ (x = 0)) (k : own_G p e below s Q K N (T.setTop (mkF m pc' Ls rest))) : own_G p e below s Q K N (T.setTop (mkF m pc Ls (.int x :: rest))) :=
  own_go (fun _ k => XS.ifYes X.here hx rfl (pc0 := pc) (pc' := pc') rfl hd rfl ((if0 _ _).trans (feq h).2) ho hp k) k
theorem own_if_neN (X : Stand p l e R s m args below meth c T locs cells slots) (hx : p.tables.exec = Jvm.exec) {pc : Nat} {Ls : Array Slot} {rest : List Value} {o : Int} {x : Int32} (hd : decode c.code pc = .ok (.ifCond .ne o, 3)) (h : x = 0) (k : own_G p e below s Q K N (T.setTop (mkF m (pc + 3) Ls rest))) : own_G p e below s Q K N (T.setTop (mkF m pc Ls (.int x :: rest))) :=
  own_go (fun _ k => XS.ifNo X.here hx rfl hd rfl ((if0 _ _).trans (teq h).2) k) k
theorem own_if_ne (X : Stand p l e R s m args below meth c T locs cells slots) (hx : p.tables.exec = Jvm.exec) {pc pc' : Nat} {Ls : Array Slot} {rest : List Value} {o : Int} {x : Int32} (hd : decode c.code pc = .ok (.ifCond .ne o, 3)) (ho : 0 ≤ (pc : Int) + o) (hp : ((pc : Int) + o).toNat = pc') (ky : ¬ (x = 0) → own_G p e below s Q K N (T.setTop (mkF m pc' Ls rest))) (kn : x = 0 → own_G p e below s Q K N (T.setTop (mkF m (pc + 3) Ls rest))) : own_G p e below s Q K N (T.setTop (mkF m pc Ls (.int x :: rest))) := by
  by_cases h : x = 0
  · exact own_if_neN X hx hd h (kn h)
  · exact own_if_neY X hx hd ho hp h (ky h)
theorem own_nar1 : nar .boolean (1 : Int32) = 1 := rfl
theorem own_nar0 : nar .boolean (0 : Int32) = 0 := rfl
theorem own_mask (x : Int32) (k : Nat) (hk : k < 2147483648) : ∃ n : Nat, n ≤ k ∧ (x &&& Int32.ofNat k) = Int32.ofNat n := by
  refine ⟨(x &&& Int32.ofNat k).toBitVec.toNat, ?_, ?_⟩
  · have h : (Int32.ofNat k).toBitVec.toNat = k := by
      show (BitVec.ofNat 32 k).toNat = k
      rw [BitVec.toNat_ofNat]; omega
    simp only [Int32.toBitVec_and, BitVec.toNat_and, h]
    exact Nat.and_le_right
  · apply Int32.toBitVec_inj.mp
    show _ = BitVec.ofNat 32 _
    rw [BitVec.ofNat_toNat]; simp
end OwnKit
theorem own_e0 (x : Int32) : 0 ≤ ((x &&& (2147483647 : Int32)) % (200 : Int32)).toInt ∧ ((x &&& (2147483647 : Int32)) % (200 : Int32)).toInt < 200 := by
  have e1 := c_mask x 2147483647 31 (by decide) (by decide)
  have h0 : 0 ≤ (x &&& (2147483647 : Int32)).toInt := by rw [e1]; exact Int.emod_nonneg _ (by decide)
  have e2 := (c_irem (x &&& 2147483647) 200 200 (by decide)).1 h0
  rw [e2]
  exact ⟨Int.emod_nonneg _ (by decide), Int.emod_lt_of_pos _ (by decide)⟩
theorem own_e1 (E x : Int32) (b : Int) (hb : b ≤ 1000) (h : 0 ≤ E.toInt ∧ E.toInt < b) : 0 < (E + (1 : Int32) + (x &&& (127 : Int32))).toInt ∧ (E + (1 : Int32) + (x &&& (127 : Int32))).toInt < b + 128 := by
  have e1 := c_mask x 127 7 (by decide) (by decide)
  have e2 := c_iadd E 1
  have e3 := c_iadd (E + 1) (x &&& 127)
  have r2 := rng32 (E + 1)
  have r3 := rng32 (E + 1 + (x &&& 127))
  have o : (1 : Int32).toInt = 1 := by decide
  rw [o] at e2
  generalize (E + 1 + (x &&& 127)).toInt = u at *
  generalize (E + 1).toInt = v at *
  generalize (x &&& 127).toInt = t at *
  have e1' : t = x.toInt % 128 := e1
  omega
theorem own_pos {x : Int32} (h : 0 < x.toInt) : ¬ x = 0 := fun e => by rw [e] at h; exact absurd h (by decide)
theorem d1_0 : decode prog_17_method_6_code 0 = .ok (.aload_n 0, 1) := by decide +kernel
theorem d1_1 : decode prog_17_method_6_code 1 = .ok (.arraylength, 1) := by decide +kernel
theorem d1_2 : decode prog_17_method_6_code 2 = .ok (.ifCond .le 13, 3) := by decide +kernel
theorem d1_15 : decode prog_17_method_6_code 15 = .ok (.iconst 0, 1) := by decide +kernel
theorem d1_16 : decode prog_17_method_6_code 16 = .ok (.ireturn, 1) := by decide +kernel
theorem pn_0 : plainName "dev/rulebound/RegexProgram" = true := by first | (simp [plainName, overriddenIn]; done) | decide +kernel
theorem ef_rmA0 (m : MethodId) (x0 : Addr) : entryFrame m #[(.ref x0)] 1 = mkF m 0 #[.val (.ref x0)] [] := by first | (simp [entryFrame, mkF, argsToLocals, Value.category]; done) | rfl
def Q_rmA0 (Z : State) (a : Addr) (ka : ClassId) (n : Int32) (vs : List Value) (x : Int32) (h0 : Heap) (n0 : Nat) : Option Value → Heap → List Loc → Prop := fun v h L => v = some (.int 0) ∧ Fr n0 L ∧ h = h0
set_option maxRecDepth 65536 in
set_option maxHeartbeats 40000000 in
theorem rmA0 (l : Launch) (Z : State) (a0 : Array Value) (hw : ∀ d ∈ tables_1, d.before a0 Z = true) (ws : List Jvm.Cond) (a : Addr) (ka : ClassId) (n : Int32) (vs : List Value) (x : Int32) (h0 : Heap) (n0 : Nat) (Z0 : n0 ≤ h0.size) (V_a : Arv Z h0 a ka .int n vs (.int (0 : Int32))) (hn : ¬ 0 < n) :
    MetFree l (⟨"dev/rulebound/RegexProgram", "accepts", "([I)Z"⟩ : MethodName) (head1 (Jvm.Cond.code (⟨"dev/rulebound/RegexProgram", "accepts", "([I)Z"⟩ : MethodName) prog_17_method_6_code 1 (some .boolean) :: ws) ({ frames := 0, cells := 0, slots := 0, locals := 0 } : Room)) (fun as_ U => as_ = #[(.ref a)] ∧ Z.Warmed39 U.vm ∧ U.heap = h0) (fun _ _ _ _ _ => True) (fun _ U o U' => ∃ v L, o = .returned v ∧ (Q_rmA0 Z a ka n vs x h0 n0) v U'.heap L ∧ FrameEnd U o U' L ({ frames := 0, cells := 0, slots := 0, locals := 0 } : Room).cells ({ frames := 0, cells := 0, slots := 0, locals := 0 } : Room).slots) := by
  refine MetFree.of_bodySF (plainFor_of_name pn_0) hisR ?_
  intro p e s m args below meth c s₁ Bd hml0 hP hK
  obtain ⟨rfl, hZ, hh⟩ := hP
  have hx := Bd.exec
  have hby := Bd.bytes
  have hml : c.maxLocals = 1 := hml0
  have hown : s.vm.findClass "dev/rulebound/RegexProgram" = some m.cls := findClass_of_methodNamed Bd.named
  have hnm := (name_of_methodNamed Bd.named Bd.method).1
  have X0 : Stand p l e ({ frames := 0, cells := 0, slots := 0, locals := 0 } : Room) s m #[(.ref a)] below meth c s₁ [] 0 0 := Stand.of_body Bd
  have e0 : s₁.heap = h0 := by rw [← hh, Bd.state]; rfl
  have N0 := Fr.nil n0
  show own_G p e below s (Q_rmA0 Z a ka n vs x h0 n0) ({ frames := 0, cells := 0, slots := 0, locals := 0 } : Room).cells ({ frames := 0, cells := 0, slots := 0, locals := 0 } : Room).slots (s₁.setTop (entryFrame m #[(.ref a)] 1))
  rw [ef_rmA0 m a]
  show own_G p e below s _ _ _ (s₁.setTop (mkF m 0 #[.val (.ref a)] []))
  refine own_go (fun _ k => XS.aloadN X0.here hx rfl (hb hby d1_0) rfl rfl k) ?_
  show own_G p e below s _ _ _ (s₁.setTop (mkF m 1 #[.val (.ref a)] [(.ref a)]))
  have Vc1 := V_a
  obtain ⟨cl1, Ar1, q1, S1, M1, H1, G1⟩ := Vc1
  refine own_go (X0.arraylength hx (cell := cl1) (by rw [e0]; exact Ar1.1) (State.isArrayOf_alike hZ.alike Ar1.2.1) (g := (mkF m 1 #[.val (.ref a)] [(.ref a)])) rfl (rest := []) rfl (hb hby d1_1)) ?_
  rw [len_of S1 M1]
  show own_G p e below s _ _ _ (s₁.setTop (mkF m 2 #[.val (.ref a)] [(.int n)]))
  refine own_if_leY X0 hx (pc := 2) (pc' := 15) (hb hby d1_2) (by decide) (by decide) hn ?_
  show own_G p e below s _ _ _ (s₁.setTop (mkF m 15 #[.val (.ref a)] []))
  refine own_go (fun _ k => XS.iconst X0.here hx rfl (hb hby d1_15) k) ?_
  show own_G p e below s _ _ _ (s₁.setTop (mkF m 16 #[.val (.ref a)] [(.int (0 : Int32))]))
  exact own_retN (t := .boolean) (ht := by simp) X0 hx Bd.returns (BodyLoose.notSynchronized Bd) (hb hby d1_16) e0 ⟨rfl, N0, rfl⟩ (by decide) (by decide)
theorem d1_5 : decode prog_17_method_6_code 5 = .ok (.aload_n 0, 1) := by decide +kernel
theorem d1_6 : decode prog_17_method_6_code 6 = .ok (.iconst 0, 1) := by decide +kernel
theorem d1_7 : decode prog_17_method_6_code 7 = .ok (.iaload, 1) := by decide +kernel
theorem d1_8 : decode prog_17_method_6_code 8 = .ok (.ifCond .ne 7, 3) := by decide +kernel
theorem d1_11 : decode prog_17_method_6_code 11 = .ok (.iconst 1, 1) := by decide +kernel
theorem d1_12 : decode prog_17_method_6_code 12 = .ok (.goto 4, 3) := by decide +kernel
theorem ef_rmA1 (m : MethodId) (x0 : Addr) : entryFrame m #[(.ref x0)] 1 = mkF m 0 #[.val (.ref x0)] [] := by first | (simp [entryFrame, mkF, argsToLocals, Value.category]; done) | rfl
def Q_rmA1 (Z : State) (a : Addr) (ka : ClassId) (n : Int32) (vs : List Value) (x : Int32) (h0 : Heap) (n0 : Nat) : Option Value → Heap → List Loc → Prop := fun v h L => v = some (.int 1) ∧ Fr n0 L ∧ h = h0
set_option maxRecDepth 65536 in
set_option maxHeartbeats 40000000 in
theorem rmA1 (l : Launch) (Z : State) (a0 : Array Value) (hw : ∀ d ∈ tables_1, d.before a0 Z = true) (ws : List Jvm.Cond) (a : Addr) (ka : ClassId) (n : Int32) (vs : List Value) (x : Int32) (h0 : Heap) (n0 : Nat) (Z0 : n0 ≤ h0.size) (V_a : Arv Z h0 a ka .int n vs (.int (0 : Int32))) (hn : 0 < n) (hv : vs.getD 0 (.int (0 : Int32)) = .int x) (hx0 : x = 0) :
    MetFree l (⟨"dev/rulebound/RegexProgram", "accepts", "([I)Z"⟩ : MethodName) (head1 (Jvm.Cond.code (⟨"dev/rulebound/RegexProgram", "accepts", "([I)Z"⟩ : MethodName) prog_17_method_6_code 1 (some .boolean) :: ws) ({ frames := 0, cells := 0, slots := 0, locals := 0 } : Room)) (fun as_ U => as_ = #[(.ref a)] ∧ Z.Warmed39 U.vm ∧ U.heap = h0) (fun _ _ _ _ _ => True) (fun _ U o U' => ∃ v L, o = .returned v ∧ (Q_rmA1 Z a ka n vs x h0 n0) v U'.heap L ∧ FrameEnd U o U' L ({ frames := 0, cells := 0, slots := 0, locals := 0 } : Room).cells ({ frames := 0, cells := 0, slots := 0, locals := 0 } : Room).slots) := by
  refine MetFree.of_bodySF (plainFor_of_name pn_0) hisR ?_
  intro p e s m args below meth c s₁ Bd hml0 hP hK
  obtain ⟨rfl, hZ, hh⟩ := hP
  have hx := Bd.exec
  have hby := Bd.bytes
  have hml : c.maxLocals = 1 := hml0
  have hown : s.vm.findClass "dev/rulebound/RegexProgram" = some m.cls := findClass_of_methodNamed Bd.named
  have hnm := (name_of_methodNamed Bd.named Bd.method).1
  have X0 : Stand p l e ({ frames := 0, cells := 0, slots := 0, locals := 0 } : Room) s m #[(.ref a)] below meth c s₁ [] 0 0 := Stand.of_body Bd
  have e0 : s₁.heap = h0 := by rw [← hh, Bd.state]; rfl
  have N0 := Fr.nil n0
  show own_G p e below s (Q_rmA1 Z a ka n vs x h0 n0) ({ frames := 0, cells := 0, slots := 0, locals := 0 } : Room).cells ({ frames := 0, cells := 0, slots := 0, locals := 0 } : Room).slots (s₁.setTop (entryFrame m #[(.ref a)] 1))
  rw [ef_rmA1 m a]
  show own_G p e below s _ _ _ (s₁.setTop (mkF m 0 #[.val (.ref a)] []))
  refine own_go (fun _ k => XS.aloadN X0.here hx rfl (hb hby d1_0) rfl rfl k) ?_
  show own_G p e below s _ _ _ (s₁.setTop (mkF m 1 #[.val (.ref a)] [(.ref a)]))
  have Vc1 := V_a
  obtain ⟨cl1, Ar1, q1, S1, M1, H1, G1⟩ := Vc1
  refine own_go (X0.arraylength hx (cell := cl1) (by rw [e0]; exact Ar1.1) (State.isArrayOf_alike hZ.alike Ar1.2.1) (g := (mkF m 1 #[.val (.ref a)] [(.ref a)])) rfl (rest := []) rfl (hb hby d1_1)) ?_
  rw [len_of S1 M1]
  show own_G p e below s _ _ _ (s₁.setTop (mkF m 2 #[.val (.ref a)] [(.int n)]))
  refine own_if_leN X0 hx (pc := 2) (hb hby d1_2) hn ?_
  show own_G p e below s _ _ _ (s₁.setTop (mkF m 5 #[.val (.ref a)] []))
  refine own_go (fun _ k => XS.aloadN X0.here hx rfl (hb hby d1_5) rfl rfl k) ?_
  show own_G p e below s _ _ _ (s₁.setTop (mkF m 6 #[.val (.ref a)] [(.ref a)]))
  refine own_go (fun _ k => XS.iconst X0.here hx rfl (hb hby d1_6) k) ?_
  show own_G p e below s _ _ _ (s₁.setTop (mkF m 7 #[.val (.ref a)] [(.int (0 : Int32)), (.ref a)]))
  have Vc2 := V_a
  obtain ⟨cl2, Ar2, q2, S2, M2, H2, G2⟩ := Vc2
  have hin2 := inb_of (j := (0 : Int32)) S2 ⟨by decide, hn⟩
  have hat2 := H2.at hin2 (v := (.int x)) hv
  refine own_go (X0.iaload hx (j := (0 : Int32)) (v := (.int x)) (by rw [e0]; exact Ar2.1) (State.isArrayOf_alike hZ.alike Ar2.2.1) Ar2.2.2 hin2 hat2 (g := (mkF m 7 #[.val (.ref a)] [(.int (0 : Int32)), (.ref a)])) rfl rfl (hb hby d1_7)) ?_
  show own_G p e below s _ _ _ (s₁.setTop (mkF m 8 #[.val (.ref a)] [(.int x)]))
  refine own_if_neN X0 hx (pc := 8) (hb hby d1_8) hx0 ?_
  show own_G p e below s _ _ _ (s₁.setTop (mkF m 11 #[.val (.ref a)] []))
  refine own_go (fun _ k => XS.iconst X0.here hx rfl (hb hby d1_11) k) ?_
  show own_G p e below s _ _ _ (s₁.setTop (mkF m 12 #[.val (.ref a)] [(.int (1 : Int32))]))
  refine own_go (fun _ k => XS.goto X0.here hx rfl (pc0 := 12) (pc' := 16) rfl (hb hby d1_12) (by decide) (by decide) k) ?_
  show own_G p e below s _ _ _ (s₁.setTop (mkF m 16 #[.val (.ref a)] [(.int (1 : Int32))]))
  exact own_retN (t := .boolean) (ht := by simp) X0 hx Bd.returns (BodyLoose.notSynchronized Bd) (hb hby d1_16) e0 ⟨rfl, N0, rfl⟩ (by decide) (by decide)
theorem ef_rmA2 (m : MethodId) (x0 : Addr) : entryFrame m #[(.ref x0)] 1 = mkF m 0 #[.val (.ref x0)] [] := by first | (simp [entryFrame, mkF, argsToLocals, Value.category]; done) | rfl
def Q_rmA2 (Z : State) (a : Addr) (ka : ClassId) (n : Int32) (vs : List Value) (x : Int32) (h0 : Heap) (n0 : Nat) : Option Value → Heap → List Loc → Prop := fun v h L => v = some (.int 0) ∧ Fr n0 L ∧ h = h0
set_option maxRecDepth 65536 in
set_option maxHeartbeats 40000000 in
theorem rmA2 (l : Launch) (Z : State) (a0 : Array Value) (hw : ∀ d ∈ tables_1, d.before a0 Z = true) (ws : List Jvm.Cond) (a : Addr) (ka : ClassId) (n : Int32) (vs : List Value) (x : Int32) (h0 : Heap) (n0 : Nat) (Z0 : n0 ≤ h0.size) (V_a : Arv Z h0 a ka .int n vs (.int (0 : Int32))) (hn : 0 < n) (hv : vs.getD 0 (.int (0 : Int32)) = .int x) (hx0 : ¬ x = 0) :
    MetFree l (⟨"dev/rulebound/RegexProgram", "accepts", "([I)Z"⟩ : MethodName) (head1 (Jvm.Cond.code (⟨"dev/rulebound/RegexProgram", "accepts", "([I)Z"⟩ : MethodName) prog_17_method_6_code 1 (some .boolean) :: ws) ({ frames := 0, cells := 0, slots := 0, locals := 0 } : Room)) (fun as_ U => as_ = #[(.ref a)] ∧ Z.Warmed39 U.vm ∧ U.heap = h0) (fun _ _ _ _ _ => True) (fun _ U o U' => ∃ v L, o = .returned v ∧ (Q_rmA2 Z a ka n vs x h0 n0) v U'.heap L ∧ FrameEnd U o U' L ({ frames := 0, cells := 0, slots := 0, locals := 0 } : Room).cells ({ frames := 0, cells := 0, slots := 0, locals := 0 } : Room).slots) := by
  refine MetFree.of_bodySF (plainFor_of_name pn_0) hisR ?_
  intro p e s m args below meth c s₁ Bd hml0 hP hK
  obtain ⟨rfl, hZ, hh⟩ := hP
  have hx := Bd.exec
  have hby := Bd.bytes
  have hml : c.maxLocals = 1 := hml0
  have hown : s.vm.findClass "dev/rulebound/RegexProgram" = some m.cls := findClass_of_methodNamed Bd.named
  have hnm := (name_of_methodNamed Bd.named Bd.method).1
  have X0 : Stand p l e ({ frames := 0, cells := 0, slots := 0, locals := 0 } : Room) s m #[(.ref a)] below meth c s₁ [] 0 0 := Stand.of_body Bd
  have e0 : s₁.heap = h0 := by rw [← hh, Bd.state]; rfl
  have N0 := Fr.nil n0
  show own_G p e below s (Q_rmA2 Z a ka n vs x h0 n0) ({ frames := 0, cells := 0, slots := 0, locals := 0 } : Room).cells ({ frames := 0, cells := 0, slots := 0, locals := 0 } : Room).slots (s₁.setTop (entryFrame m #[(.ref a)] 1))
  rw [ef_rmA2 m a]
  show own_G p e below s _ _ _ (s₁.setTop (mkF m 0 #[.val (.ref a)] []))
  refine own_go (fun _ k => XS.aloadN X0.here hx rfl (hb hby d1_0) rfl rfl k) ?_
  show own_G p e below s _ _ _ (s₁.setTop (mkF m 1 #[.val (.ref a)] [(.ref a)]))
  have Vc1 := V_a
  obtain ⟨cl1, Ar1, q1, S1, M1, H1, G1⟩ := Vc1
  refine own_go (X0.arraylength hx (cell := cl1) (by rw [e0]; exact Ar1.1) (State.isArrayOf_alike hZ.alike Ar1.2.1) (g := (mkF m 1 #[.val (.ref a)] [(.ref a)])) rfl (rest := []) rfl (hb hby d1_1)) ?_
  rw [len_of S1 M1]
  show own_G p e below s _ _ _ (s₁.setTop (mkF m 2 #[.val (.ref a)] [(.int n)]))
  refine own_if_leN X0 hx (pc := 2) (hb hby d1_2) hn ?_
  show own_G p e below s _ _ _ (s₁.setTop (mkF m 5 #[.val (.ref a)] []))
  refine own_go (fun _ k => XS.aloadN X0.here hx rfl (hb hby d1_5) rfl rfl k) ?_
  show own_G p e below s _ _ _ (s₁.setTop (mkF m 6 #[.val (.ref a)] [(.ref a)]))
  refine own_go (fun _ k => XS.iconst X0.here hx rfl (hb hby d1_6) k) ?_
  show own_G p e below s _ _ _ (s₁.setTop (mkF m 7 #[.val (.ref a)] [(.int (0 : Int32)), (.ref a)]))
  have Vc2 := V_a
  obtain ⟨cl2, Ar2, q2, S2, M2, H2, G2⟩ := Vc2
  have hin2 := inb_of (j := (0 : Int32)) S2 ⟨by decide, hn⟩
  have hat2 := H2.at hin2 (v := (.int x)) hv
  refine own_go (X0.iaload hx (j := (0 : Int32)) (v := (.int x)) (by rw [e0]; exact Ar2.1) (State.isArrayOf_alike hZ.alike Ar2.2.1) Ar2.2.2 hin2 hat2 (g := (mkF m 7 #[.val (.ref a)] [(.int (0 : Int32)), (.ref a)])) rfl rfl (hb hby d1_7)) ?_
  show own_G p e below s _ _ _ (s₁.setTop (mkF m 8 #[.val (.ref a)] [(.int x)]))
  refine own_if_neY X0 hx (pc := 8) (pc' := 15) (hb hby d1_8) (by decide) (by decide) hx0 ?_
  show own_G p e below s _ _ _ (s₁.setTop (mkF m 15 #[.val (.ref a)] []))
  refine own_go (fun _ k => XS.iconst X0.here hx rfl (hb hby d1_15) k) ?_
  show own_G p e below s _ _ _ (s₁.setTop (mkF m 16 #[.val (.ref a)] [(.int (0 : Int32))]))
  exact own_retN (t := .boolean) (ht := by simp) X0 hx Bd.returns (BodyLoose.notSynchronized Bd) (hb hby d1_16) e0 ⟨rfl, N0, rfl⟩ (by decide) (by decide)
theorem pn_1 : plainName "dev/rulebound/RegexProgramAcceptsPinLaw" = true := by first | (simp [plainName, overriddenIn]; done) | decide +kernel
theorem pd_0 : parseMethodDescriptor "([I)Z" = some ⟨[(.array .int)], some .boolean⟩ := by decide +kernel
theorem ef_rm0 (m : MethodId) (x0 : Int32) (x1 : Int32) (x2 : Int32) (x3 : Int32) (x4 : Int32) : entryFrame m #[(.int x0), (.int x1), (.int x2), (.int x3), (.int x4)] maxLocals = mkF m 0 #[.val (.int x0), .val (.int x1), .val (.int x2), .val (.int x3), .val (.int x4), .unset, .unset, .unset, .unset, .unset, .unset] [] := by first | (simp [entryFrame, mkF, argsToLocals, Value.category, maxLocals]; done) | rfl
def Q_rm0 (Z : State) (x0 x1 x2 x3 x4 : Int32) (h0 : Heap) (n0 : Nat) : Option Value → Heap → List Loc → Prop := fun v h L => v = some (.int 1) ∧ Fr n0 L
set_option maxRecDepth 65536 in
set_option maxHeartbeats 40000000 in
theorem rm0 (l : Launch) (Z : State) (a0 : Array Value) (hw : ∀ d ∈ tables_1, d.before a0 Z = true) (ws : List Jvm.Cond) (x0 x1 x2 x3 x4 : Int32) (h0 : Heap) (n0 : Nat) (Z0 : n0 ≤ h0.size)  :
    MetFree l x (head1 (Jvm.Cond.code x code maxLocals ret :: ws) room_1) (fun as_ U => as_ = #[(.int x0), (.int x1), (.int x2), (.int x3), (.int x4)] ∧ Z.Warmed39 U.vm ∧ U.heap = h0) (fun _ _ _ _ _ => True) (fun _ U o U' => ∃ v L, o = .returned v ∧ (Q_rm0 Z x0 x1 x2 x3 x4 h0 n0) v U'.heap L ∧ FrameEnd U o U' L 16 128) := by
  refine MetFree.of_bodySF (plainFor_of_name pn_1) hisR ?_
  intro p e s m args below meth c s₁ Bd hml0 hP hK
  obtain ⟨rfl, hZ, hh⟩ := hP
  have hx := Bd.exec
  have hby := Bd.bytes
  have hml : c.maxLocals = 11 := hml0
  have hown : s.vm.findClass "dev/rulebound/RegexProgramAcceptsPinLaw" = some m.cls := findClass_of_methodNamed Bd.named
  have hnm := (name_of_methodNamed Bd.named Bd.method).1
  have X0 : Stand p l e room_1 s m #[(.int x0), (.int x1), (.int x2), (.int x3), (.int x4)] below meth c s₁ [] 0 0 := Stand.of_body Bd
  have e0 : s₁.heap = h0 := by rw [← hh, Bd.state]; rfl
  have N0 := Fr.nil n0
  show own_G p e below s (Q_rm0 Z x0 x1 x2 x3 x4 h0 n0) 16 128 (s₁.setTop (entryFrame m #[(.int x0), (.int x1), (.int x2), (.int x3), (.int x4)] maxLocals))
  rw [ef_rm0 m x0 x1 x2 x3 x4]
  obtain ⟨nn, hnn, en⟩ := own_mask x0 3 (by decide)
  have en' : (x0 &&& (3 : Int32)) = Int32.ofNat nn := en
  show own_G p e below s _ _ _ (s₁.setTop (mkF m 0 #[.val (.int x0), .val (.int x1), .val (.int x2), .val (.int x3), .val (.int x4), .unset, .unset, .unset, .unset, .unset, .unset] []))
  refine own_go (fun _ k => XS.iloadN X0.here hx rfl (hb hby at_0) rfl k) ?_
  show own_G p e below s _ _ _ (s₁.setTop (mkF m 1 #[.val (.int x0), .val (.int x1), .val (.int x2), .val (.int x3), .val (.int x4), .unset, .unset, .unset, .unset, .unset, .unset] [(.int x0)]))
  refine own_go (fun _ k => XS.iconst X0.here hx rfl (hb hby at_1) k) ?_
  show own_G p e below s _ _ _ (s₁.setTop (mkF m 2 #[.val (.int x0), .val (.int x1), .val (.int x2), .val (.int x3), .val (.int x4), .unset, .unset, .unset, .unset, .unset, .unset] [(.int (3 : Int32)), (.int x0)]))
  refine own_go (fun _ k => XS.iand X0.here hx rfl (hb hby at_2) rfl k) ?_
  show own_G p e below s _ _ _ (s₁.setTop (mkF m 3 #[.val (.int x0), .val (.int x1), .val (.int x2), .val (.int x3), .val (.int x4), .unset, .unset, .unset, .unset, .unset, .unset] [(.int (x0 &&& (3 : Int32)))]))
  rw [en']
  rcases (by omega : nn = 0 ∨ nn = 1 ∨ nn = 2 ∨ nn = 3) with rfl | rfl | rfl | rfl
  · skip
    suffices J : ∀ (E0 : Int32), 0 ≤ E0.toInt ∧ E0.toInt < 200 → own_G p e below s (Q_rm0 Z x0 x1 x2 x3 x4 h0 n0) 16 128 (s₁.setTop (mkF m 23 #[.val (.int x0), .val (.int x1), .val (.int x2), .val (.int x3), .val (.int x4), .val (.int (0 : Int32)), .unset, .unset, .unset, .unset, .unset] [(.int E0)])) by
      show own_G p e below s _ _ _ (s₁.setTop (mkF m 3 #[.val (.int x0), .val (.int x1), .val (.int x2), .val (.int x3), .val (.int x4), .unset, .unset, .unset, .unset, .unset, .unset] [(.int (0 : Int32))]))
      refine own_go (fun _ k => XS.istore X0.here hx rfl (hb hby at_3) rfl (l' := #[.val (.int x0), .val (.int x1), .val (.int x2), .val (.int x3), .val (.int x4), .val (.int (0 : Int32)), .unset, .unset, .unset, .unset, .unset]) rfl k) ?_
      show own_G p e below s _ _ _ (s₁.setTop (mkF m 5 #[.val (.int x0), .val (.int x1), .val (.int x2), .val (.int x3), .val (.int x4), .val (.int (0 : Int32)), .unset, .unset, .unset, .unset, .unset] []))
      refine own_go (fun _ k => XS.iloadN X0.here hx rfl (hb hby at_5) rfl k) ?_
      show own_G p e below s _ _ _ (s₁.setTop (mkF m 6 #[.val (.int x0), .val (.int x1), .val (.int x2), .val (.int x3), .val (.int x4), .val (.int (0 : Int32)), .unset, .unset, .unset, .unset, .unset] [(.int x1)]))
      refine own_go (fun _ k => XS.iconst X0.here hx rfl (hb hby at_6) k) ?_
      show own_G p e below s _ _ _ (s₁.setTop (mkF m 7 #[.val (.int x0), .val (.int x1), .val (.int x2), .val (.int x3), .val (.int x4), .val (.int (0 : Int32)), .unset, .unset, .unset, .unset, .unset] [(.int (1 : Int32)), (.int x1)]))
      refine own_go (fun _ k => XS.iand X0.here hx rfl (hb hby at_7) rfl k) ?_
      show own_G p e below s _ _ _ (s₁.setTop (mkF m 8 #[.val (.int x0), .val (.int x1), .val (.int x2), .val (.int x3), .val (.int x4), .val (.int (0 : Int32)), .unset, .unset, .unset, .unset, .unset] [(.int (x1 &&& (1 : Int32)))]))
      refine own_if_eq X0 hx (pc := 8) (pc' := 15) (hb hby at_8) (by decide) (by decide) (fun hc8 => ?_) (fun hc8 => ?_)
      · show own_G p e below s _ _ _ (s₁.setTop (mkF m 15 #[.val (.int x0), .val (.int x1), .val (.int x2), .val (.int x3), .val (.int x4), .val (.int (0 : Int32)), .unset, .unset, .unset, .unset, .unset] []))
        refine own_go (fun _ k => XS.iloadN X0.here hx rfl (hb hby at_15) rfl k) ?_
        show own_G p e below s _ _ _ (s₁.setTop (mkF m 16 #[.val (.int x0), .val (.int x1), .val (.int x2), .val (.int x3), .val (.int x4), .val (.int (0 : Int32)), .unset, .unset, .unset, .unset, .unset] [(.int x2)]))
        refine own_go (fun _ k => X0.ldcInt hx hown (mvT hZ (hw _ (List.mem_of_getElem? (i := 5) rfl))) (g := (mkF m 16 #[.val (.int x0), .val (.int x1), .val (.int x2), .val (.int x3), .val (.int x4), .val (.int (0 : Int32)), .unset, .unset, .unset, .unset, .unset] [(.int x2)])) rfl (hb hby at_16) _ k) ?_
        show own_G p e below s _ _ _ (s₁.setTop (mkF m 18 #[.val (.int x0), .val (.int x1), .val (.int x2), .val (.int x3), .val (.int x4), .val (.int (0 : Int32)), .unset, .unset, .unset, .unset, .unset] [(.int (2147483647 : Int32)), (.int x2)]))
        refine own_go (fun _ k => XS.iand X0.here hx rfl (hb hby at_18) rfl k) ?_
        show own_G p e below s _ _ _ (s₁.setTop (mkF m 19 #[.val (.int x0), .val (.int x1), .val (.int x2), .val (.int x3), .val (.int x4), .val (.int (0 : Int32)), .unset, .unset, .unset, .unset, .unset] [(.int (x2 &&& (2147483647 : Int32)))]))
        refine own_go (fun _ k => XS.sipush X0.here hx rfl (hb hby at_19) k) ?_
        show own_G p e below s _ _ _ (s₁.setTop (mkF m 22 #[.val (.int x0), .val (.int x1), .val (.int x2), .val (.int x3), .val (.int x4), .val (.int (0 : Int32)), .unset, .unset, .unset, .unset, .unset] [(.int (200 : Int32)), (.int (x2 &&& (2147483647 : Int32)))]))
        refine own_go (fun _ k => iremM X0 hx rfl (hb hby at_22) rfl (by decide) k) ?_
        exact J _ (own_e0 x2)
      · show own_G p e below s _ _ _ (s₁.setTop (mkF m 11 #[.val (.int x0), .val (.int x1), .val (.int x2), .val (.int x3), .val (.int x4), .val (.int (0 : Int32)), .unset, .unset, .unset, .unset, .unset] []))
        refine own_go (fun _ k => XS.iconst X0.here hx rfl (hb hby at_11) k) ?_
        show own_G p e below s _ _ _ (s₁.setTop (mkF m 12 #[.val (.int x0), .val (.int x1), .val (.int x2), .val (.int x3), .val (.int x4), .val (.int (0 : Int32)), .unset, .unset, .unset, .unset, .unset] [(.int (0 : Int32))]))
        refine own_go (fun _ k => XS.goto X0.here hx rfl (pc0 := 12) (pc' := 23) rfl (hb hby at_12) (by decide) (by decide) k) ?_
        exact J _ (by decide)
    intro E0 hE0
    have hq1 := own_e1 E0 x3 200 (by decide) hE0
    have hq2 := own_e1 ((E0 + (1 : Int32)) + (x3 &&& (127 : Int32))) x4 328 (by decide) ⟨by omega, by omega⟩
    have hE1 := own_pos hq1.1
    have hE2 := own_pos hq2.1
    show own_G p e below s _ _ _ (s₁.setTop (mkF m 23 #[.val (.int x0), .val (.int x1), .val (.int x2), .val (.int x3), .val (.int x4), .val (.int (0 : Int32)), .unset, .unset, .unset, .unset, .unset] [(.int E0)]))
    refine own_go (fun _ k => XS.istore X0.here hx rfl (hb hby at_23) rfl (l' := #[.val (.int x0), .val (.int x1), .val (.int x2), .val (.int x3), .val (.int x4), .val (.int (0 : Int32)), .val (.int E0), .unset, .unset, .unset, .unset]) rfl k) ?_
    show own_G p e below s _ _ _ (s₁.setTop (mkF m 25 #[.val (.int x0), .val (.int x1), .val (.int x2), .val (.int x3), .val (.int x4), .val (.int (0 : Int32)), .val (.int E0), .unset, .unset, .unset, .unset] []))
    refine own_go (fun _ k => XS.iload X0.here hx rfl (hb hby at_25) rfl k) ?_
    show own_G p e below s _ _ _ (s₁.setTop (mkF m 27 #[.val (.int x0), .val (.int x1), .val (.int x2), .val (.int x3), .val (.int x4), .val (.int (0 : Int32)), .val (.int E0), .unset, .unset, .unset, .unset] [(.int E0)]))
    refine own_go (fun _ k => XS.iconst X0.here hx rfl (hb hby at_27) k) ?_
    show own_G p e below s _ _ _ (s₁.setTop (mkF m 28 #[.val (.int x0), .val (.int x1), .val (.int x2), .val (.int x3), .val (.int x4), .val (.int (0 : Int32)), .val (.int E0), .unset, .unset, .unset, .unset] [(.int (1 : Int32)), (.int E0)]))
    refine own_go (fun _ k => XS.iadd X0.here hx rfl (hb hby at_28) rfl k) ?_
    show own_G p e below s _ _ _ (s₁.setTop (mkF m 29 #[.val (.int x0), .val (.int x1), .val (.int x2), .val (.int x3), .val (.int x4), .val (.int (0 : Int32)), .val (.int E0), .unset, .unset, .unset, .unset] [(.int (E0 + (1 : Int32)))]))
    refine own_go (fun _ k => XS.iloadN X0.here hx rfl (hb hby at_29) rfl k) ?_
    show own_G p e below s _ _ _ (s₁.setTop (mkF m 30 #[.val (.int x0), .val (.int x1), .val (.int x2), .val (.int x3), .val (.int x4), .val (.int (0 : Int32)), .val (.int E0), .unset, .unset, .unset, .unset] [(.int x3), (.int (E0 + (1 : Int32)))]))
    refine own_go (fun _ k => XS.bipush X0.here hx rfl (hb hby at_30) k) ?_
    show own_G p e below s _ _ _ (s₁.setTop (mkF m 32 #[.val (.int x0), .val (.int x1), .val (.int x2), .val (.int x3), .val (.int x4), .val (.int (0 : Int32)), .val (.int E0), .unset, .unset, .unset, .unset] [(.int (127 : Int32)), (.int x3), (.int (E0 + (1 : Int32)))]))
    refine own_go (fun _ k => XS.iand X0.here hx rfl (hb hby at_32) rfl k) ?_
    show own_G p e below s _ _ _ (s₁.setTop (mkF m 33 #[.val (.int x0), .val (.int x1), .val (.int x2), .val (.int x3), .val (.int x4), .val (.int (0 : Int32)), .val (.int E0), .unset, .unset, .unset, .unset] [(.int (x3 &&& (127 : Int32))), (.int (E0 + (1 : Int32)))]))
    refine own_go (fun _ k => XS.iadd X0.here hx rfl (hb hby at_33) rfl k) ?_
    show own_G p e below s _ _ _ (s₁.setTop (mkF m 34 #[.val (.int x0), .val (.int x1), .val (.int x2), .val (.int x3), .val (.int x4), .val (.int (0 : Int32)), .val (.int E0), .unset, .unset, .unset, .unset] [(.int ((E0 + (1 : Int32)) + (x3 &&& (127 : Int32))))]))
    refine own_go (fun _ k => XS.istore X0.here hx rfl (hb hby at_34) rfl (l' := #[.val (.int x0), .val (.int x1), .val (.int x2), .val (.int x3), .val (.int x4), .val (.int (0 : Int32)), .val (.int E0), .val (.int ((E0 + (1 : Int32)) + (x3 &&& (127 : Int32)))), .unset, .unset, .unset]) rfl k) ?_
    show own_G p e below s _ _ _ (s₁.setTop (mkF m 36 #[.val (.int x0), .val (.int x1), .val (.int x2), .val (.int x3), .val (.int x4), .val (.int (0 : Int32)), .val (.int E0), .val (.int ((E0 + (1 : Int32)) + (x3 &&& (127 : Int32)))), .unset, .unset, .unset] []))
    refine own_go (fun _ k => XS.iload X0.here hx rfl (hb hby at_36) rfl k) ?_
    show own_G p e below s _ _ _ (s₁.setTop (mkF m 38 #[.val (.int x0), .val (.int x1), .val (.int x2), .val (.int x3), .val (.int x4), .val (.int (0 : Int32)), .val (.int E0), .val (.int ((E0 + (1 : Int32)) + (x3 &&& (127 : Int32)))), .unset, .unset, .unset] [(.int ((E0 + (1 : Int32)) + (x3 &&& (127 : Int32))))]))
    refine own_go (fun _ k => XS.iconst X0.here hx rfl (hb hby at_38) k) ?_
    show own_G p e below s _ _ _ (s₁.setTop (mkF m 39 #[.val (.int x0), .val (.int x1), .val (.int x2), .val (.int x3), .val (.int x4), .val (.int (0 : Int32)), .val (.int E0), .val (.int ((E0 + (1 : Int32)) + (x3 &&& (127 : Int32)))), .unset, .unset, .unset] [(.int (1 : Int32)), (.int ((E0 + (1 : Int32)) + (x3 &&& (127 : Int32))))]))
    refine own_go (fun _ k => XS.iadd X0.here hx rfl (hb hby at_39) rfl k) ?_
    show own_G p e below s _ _ _ (s₁.setTop (mkF m 40 #[.val (.int x0), .val (.int x1), .val (.int x2), .val (.int x3), .val (.int x4), .val (.int (0 : Int32)), .val (.int E0), .val (.int ((E0 + (1 : Int32)) + (x3 &&& (127 : Int32)))), .unset, .unset, .unset] [(.int (((E0 + (1 : Int32)) + (x3 &&& (127 : Int32))) + (1 : Int32)))]))
    refine own_go (fun _ k => XS.iload X0.here hx rfl (hb hby at_40) rfl k) ?_
    show own_G p e below s _ _ _ (s₁.setTop (mkF m 42 #[.val (.int x0), .val (.int x1), .val (.int x2), .val (.int x3), .val (.int x4), .val (.int (0 : Int32)), .val (.int E0), .val (.int ((E0 + (1 : Int32)) + (x3 &&& (127 : Int32)))), .unset, .unset, .unset] [(.int x4), (.int (((E0 + (1 : Int32)) + (x3 &&& (127 : Int32))) + (1 : Int32)))]))
    refine own_go (fun _ k => XS.bipush X0.here hx rfl (hb hby at_42) k) ?_
    show own_G p e below s _ _ _ (s₁.setTop (mkF m 44 #[.val (.int x0), .val (.int x1), .val (.int x2), .val (.int x3), .val (.int x4), .val (.int (0 : Int32)), .val (.int E0), .val (.int ((E0 + (1 : Int32)) + (x3 &&& (127 : Int32)))), .unset, .unset, .unset] [(.int (127 : Int32)), (.int x4), (.int (((E0 + (1 : Int32)) + (x3 &&& (127 : Int32))) + (1 : Int32)))]))
    refine own_go (fun _ k => XS.iand X0.here hx rfl (hb hby at_44) rfl k) ?_
    show own_G p e below s _ _ _ (s₁.setTop (mkF m 45 #[.val (.int x0), .val (.int x1), .val (.int x2), .val (.int x3), .val (.int x4), .val (.int (0 : Int32)), .val (.int E0), .val (.int ((E0 + (1 : Int32)) + (x3 &&& (127 : Int32)))), .unset, .unset, .unset] [(.int (x4 &&& (127 : Int32))), (.int (((E0 + (1 : Int32)) + (x3 &&& (127 : Int32))) + (1 : Int32)))]))
    refine own_go (fun _ k => XS.iadd X0.here hx rfl (hb hby at_45) rfl k) ?_
    show own_G p e below s _ _ _ (s₁.setTop (mkF m 46 #[.val (.int x0), .val (.int x1), .val (.int x2), .val (.int x3), .val (.int x4), .val (.int (0 : Int32)), .val (.int E0), .val (.int ((E0 + (1 : Int32)) + (x3 &&& (127 : Int32)))), .unset, .unset, .unset] [(.int ((((E0 + (1 : Int32)) + (x3 &&& (127 : Int32))) + (1 : Int32)) + (x4 &&& (127 : Int32))))]))
    refine own_go (fun _ k => XS.istore X0.here hx rfl (hb hby at_46) rfl (l' := #[.val (.int x0), .val (.int x1), .val (.int x2), .val (.int x3), .val (.int x4), .val (.int (0 : Int32)), .val (.int E0), .val (.int ((E0 + (1 : Int32)) + (x3 &&& (127 : Int32)))), .val (.int ((((E0 + (1 : Int32)) + (x3 &&& (127 : Int32))) + (1 : Int32)) + (x4 &&& (127 : Int32)))), .unset, .unset]) rfl k) ?_
    show own_G p e below s _ _ _ (s₁.setTop (mkF m 48 #[.val (.int x0), .val (.int x1), .val (.int x2), .val (.int x3), .val (.int x4), .val (.int (0 : Int32)), .val (.int E0), .val (.int ((E0 + (1 : Int32)) + (x3 &&& (127 : Int32)))), .val (.int ((((E0 + (1 : Int32)) + (x3 &&& (127 : Int32))) + (1 : Int32)) + (x4 &&& (127 : Int32)))), .unset, .unset] []))
    refine own_go (fun _ k => XS.iload X0.here hx rfl (hb hby at_48) rfl k) ?_
    show own_G p e below s _ _ _ (s₁.setTop (mkF m 50 #[.val (.int x0), .val (.int x1), .val (.int x2), .val (.int x3), .val (.int x4), .val (.int (0 : Int32)), .val (.int E0), .val (.int ((E0 + (1 : Int32)) + (x3 &&& (127 : Int32)))), .val (.int ((((E0 + (1 : Int32)) + (x3 &&& (127 : Int32))) + (1 : Int32)) + (x4 &&& (127 : Int32)))), .unset, .unset] [(.int (0 : Int32))]))
    obtain ⟨T1, h1, k1, X1, e1, E1, A1, st1⟩ := newP X0 hx hZ (hw _ (List.mem_of_getElem? (i := 0) rfl)) e0 (g := (mkF m 50 #[.val (.int x0), .val (.int x1), .val (.int x2), .val (.int x3), .val (.int x4), .val (.int (0 : Int32)), .val (.int E0), .val (.int ((E0 + (1 : Int32)) + (x3 &&& (127 : Int32)))), .val (.int ((((E0 + (1 : Int32)) + (x3 &&& (127 : Int32))) + (1 : Int32)) + (x4 &&& (127 : Int32)))), .unset, .unset] [(.int (0 : Int32))])) rfl (hb hby at_50) rfl (by decide) (cap := 0) (by decide) (by decide) (by decide) (by decide)
    obtain ⟨b1, g1⟩ : ∃ z, z = h0.size := ⟨_, rfl⟩
    rw [← g1] at A1 st1
    refine own_go st1 ?_
    have g_b1 : n0 ≤ b1 := Nat.le_trans Z0 (Nat.le_of_eq g1.symm)
    have Z1 : n0 ≤ h1.size := Nat.le_trans Z0 E1.1
    have V1_b1 : Arv Z h1 b1 k1 .int (0 : Int32) [] (.int (0 : Int32)) := (Arv.new A1 (by decide)).pad (pad_rep [] (.int (0 : Int32)) 0)
    show own_G p e below s _ _ _ (T1.setTop (mkF m 52 #[.val (.int x0), .val (.int x1), .val (.int x2), .val (.int x3), .val (.int x4), .val (.int (0 : Int32)), .val (.int E0), .val (.int ((E0 + (1 : Int32)) + (x3 &&& (127 : Int32)))), .val (.int ((((E0 + (1 : Int32)) + (x3 &&& (127 : Int32))) + (1 : Int32)) + (x4 &&& (127 : Int32)))), .unset, .unset] [(.ref b1)]))
    refine own_go (fun _ k => XS.astore X1.here hx rfl (hb hby at_52) rfl rfl (l' := #[.val (.int x0), .val (.int x1), .val (.int x2), .val (.int x3), .val (.int x4), .val (.int (0 : Int32)), .val (.int E0), .val (.int ((E0 + (1 : Int32)) + (x3 &&& (127 : Int32)))), .val (.int ((((E0 + (1 : Int32)) + (x3 &&& (127 : Int32))) + (1 : Int32)) + (x4 &&& (127 : Int32)))), .val (.ref b1), .unset]) rfl k) ?_
    show own_G p e below s _ _ _ (T1.setTop (mkF m 54 #[.val (.int x0), .val (.int x1), .val (.int x2), .val (.int x3), .val (.int x4), .val (.int (0 : Int32)), .val (.int E0), .val (.int ((E0 + (1 : Int32)) + (x3 &&& (127 : Int32)))), .val (.int ((((E0 + (1 : Int32)) + (x3 &&& (127 : Int32))) + (1 : Int32)) + (x4 &&& (127 : Int32)))), .val (.ref b1), .unset] []))
    refine own_go (fun _ k => XS.iload X1.here hx rfl (hb hby at_54) rfl k) ?_
    show own_G p e below s _ _ _ (T1.setTop (mkF m 56 #[.val (.int x0), .val (.int x1), .val (.int x2), .val (.int x3), .val (.int x4), .val (.int (0 : Int32)), .val (.int E0), .val (.int ((E0 + (1 : Int32)) + (x3 &&& (127 : Int32)))), .val (.int ((((E0 + (1 : Int32)) + (x3 &&& (127 : Int32))) + (1 : Int32)) + (x4 &&& (127 : Int32)))), .val (.ref b1), .unset] [(.int (0 : Int32))]))
    refine own_go (fun _ k => XS.iconst X1.here hx rfl (hb hby at_56) k) ?_
    show own_G p e below s _ _ _ (T1.setTop (mkF m 57 #[.val (.int x0), .val (.int x1), .val (.int x2), .val (.int x3), .val (.int x4), .val (.int (0 : Int32)), .val (.int E0), .val (.int ((E0 + (1 : Int32)) + (x3 &&& (127 : Int32)))), .val (.int ((((E0 + (1 : Int32)) + (x3 &&& (127 : Int32))) + (1 : Int32)) + (x4 &&& (127 : Int32)))), .val (.ref b1), .unset] [(.int (1 : Int32)), (.int (0 : Int32))]))
    refine own_ic_ltY X1 hx (pc := 57) (pc' := 66) (hb hby at_57) (by decide) (by decide) (by decide) ?_
    show own_G p e below s _ _ _ (T1.setTop (mkF m 66 #[.val (.int x0), .val (.int x1), .val (.int x2), .val (.int x3), .val (.int x4), .val (.int (0 : Int32)), .val (.int E0), .val (.int ((E0 + (1 : Int32)) + (x3 &&& (127 : Int32)))), .val (.int ((((E0 + (1 : Int32)) + (x3 &&& (127 : Int32))) + (1 : Int32)) + (x4 &&& (127 : Int32)))), .val (.ref b1), .unset] []))
    refine own_go (fun _ k => XS.iload X1.here hx rfl (hb hby at_66) rfl k) ?_
    show own_G p e below s _ _ _ (T1.setTop (mkF m 68 #[.val (.int x0), .val (.int x1), .val (.int x2), .val (.int x3), .val (.int x4), .val (.int (0 : Int32)), .val (.int E0), .val (.int ((E0 + (1 : Int32)) + (x3 &&& (127 : Int32)))), .val (.int ((((E0 + (1 : Int32)) + (x3 &&& (127 : Int32))) + (1 : Int32)) + (x4 &&& (127 : Int32)))), .val (.ref b1), .unset] [(.int (0 : Int32))]))
    refine own_go (fun _ k => XS.iconst X1.here hx rfl (hb hby at_68) k) ?_
    show own_G p e below s _ _ _ (T1.setTop (mkF m 69 #[.val (.int x0), .val (.int x1), .val (.int x2), .val (.int x3), .val (.int x4), .val (.int (0 : Int32)), .val (.int E0), .val (.int ((E0 + (1 : Int32)) + (x3 &&& (127 : Int32)))), .val (.int ((((E0 + (1 : Int32)) + (x3 &&& (127 : Int32))) + (1 : Int32)) + (x4 &&& (127 : Int32)))), .val (.ref b1), .unset] [(.int (2 : Int32)), (.int (0 : Int32))]))
    refine own_ic_ltY X1 hx (pc := 69) (pc' := 78) (hb hby at_69) (by decide) (by decide) (by decide) ?_
    show own_G p e below s _ _ _ (T1.setTop (mkF m 78 #[.val (.int x0), .val (.int x1), .val (.int x2), .val (.int x3), .val (.int x4), .val (.int (0 : Int32)), .val (.int E0), .val (.int ((E0 + (1 : Int32)) + (x3 &&& (127 : Int32)))), .val (.int ((((E0 + (1 : Int32)) + (x3 &&& (127 : Int32))) + (1 : Int32)) + (x4 &&& (127 : Int32)))), .val (.ref b1), .unset] []))
    refine own_go (fun _ k => XS.iload X1.here hx rfl (hb hby at_78) rfl k) ?_
    show own_G p e below s _ _ _ (T1.setTop (mkF m 80 #[.val (.int x0), .val (.int x1), .val (.int x2), .val (.int x3), .val (.int x4), .val (.int (0 : Int32)), .val (.int E0), .val (.int ((E0 + (1 : Int32)) + (x3 &&& (127 : Int32)))), .val (.int ((((E0 + (1 : Int32)) + (x3 &&& (127 : Int32))) + (1 : Int32)) + (x4 &&& (127 : Int32)))), .val (.ref b1), .unset] [(.int (0 : Int32))]))
    refine own_go (fun _ k => XS.iconst X1.here hx rfl (hb hby at_80) k) ?_
    show own_G p e below s _ _ _ (T1.setTop (mkF m 81 #[.val (.int x0), .val (.int x1), .val (.int x2), .val (.int x3), .val (.int x4), .val (.int (0 : Int32)), .val (.int E0), .val (.int ((E0 + (1 : Int32)) + (x3 &&& (127 : Int32)))), .val (.int ((((E0 + (1 : Int32)) + (x3 &&& (127 : Int32))) + (1 : Int32)) + (x4 &&& (127 : Int32)))), .val (.ref b1), .unset] [(.int (3 : Int32)), (.int (0 : Int32))]))
    refine own_ic_ltY X1 hx (pc := 81) (pc' := 90) (hb hby at_81) (by decide) (by decide) (by decide) ?_
    show own_G p e below s _ _ _ (T1.setTop (mkF m 90 #[.val (.int x0), .val (.int x1), .val (.int x2), .val (.int x3), .val (.int x4), .val (.int (0 : Int32)), .val (.int E0), .val (.int ((E0 + (1 : Int32)) + (x3 &&& (127 : Int32)))), .val (.int ((((E0 + (1 : Int32)) + (x3 &&& (127 : Int32))) + (1 : Int32)) + (x4 &&& (127 : Int32)))), .val (.ref b1), .unset] []))
    refine own_go (fun _ k => XS.iload X1.here hx rfl (hb hby at_90) rfl k) ?_
    show own_G p e below s _ _ _ (T1.setTop (mkF m 92 #[.val (.int x0), .val (.int x1), .val (.int x2), .val (.int x3), .val (.int x4), .val (.int (0 : Int32)), .val (.int E0), .val (.int ((E0 + (1 : Int32)) + (x3 &&& (127 : Int32)))), .val (.int ((((E0 + (1 : Int32)) + (x3 &&& (127 : Int32))) + (1 : Int32)) + (x4 &&& (127 : Int32)))), .val (.ref b1), .unset] [(.int (0 : Int32))]))
    refine own_go (fun _ k => XS.iconst X1.here hx rfl (hb hby at_92) k) ?_
    show own_G p e below s _ _ _ (T1.setTop (mkF m 93 #[.val (.int x0), .val (.int x1), .val (.int x2), .val (.int x3), .val (.int x4), .val (.int (0 : Int32)), .val (.int E0), .val (.int ((E0 + (1 : Int32)) + (x3 &&& (127 : Int32)))), .val (.int ((((E0 + (1 : Int32)) + (x3 &&& (127 : Int32))) + (1 : Int32)) + (x4 &&& (127 : Int32)))), .val (.ref b1), .unset] [(.int (1 : Int32)), (.int (0 : Int32))]))
    refine own_ic_ltY X1 hx (pc := 93) (pc' := 101) (hb hby at_93) (by decide) (by decide) (by decide) ?_
    show own_G p e below s _ _ _ (T1.setTop (mkF m 101 #[.val (.int x0), .val (.int x1), .val (.int x2), .val (.int x3), .val (.int x4), .val (.int (0 : Int32)), .val (.int E0), .val (.int ((E0 + (1 : Int32)) + (x3 &&& (127 : Int32)))), .val (.int ((((E0 + (1 : Int32)) + (x3 &&& (127 : Int32))) + (1 : Int32)) + (x4 &&& (127 : Int32)))), .val (.ref b1), .unset] []))
    refine own_go (fun _ k => XS.iload X1.here hx rfl (hb hby at_101) rfl k) ?_
    show own_G p e below s _ _ _ (T1.setTop (mkF m 103 #[.val (.int x0), .val (.int x1), .val (.int x2), .val (.int x3), .val (.int x4), .val (.int (0 : Int32)), .val (.int E0), .val (.int ((E0 + (1 : Int32)) + (x3 &&& (127 : Int32)))), .val (.int ((((E0 + (1 : Int32)) + (x3 &&& (127 : Int32))) + (1 : Int32)) + (x4 &&& (127 : Int32)))), .val (.ref b1), .unset] [(.int (0 : Int32))]))
    refine own_go (fun _ k => XS.iconst X1.here hx rfl (hb hby at_103) k) ?_
    show own_G p e below s _ _ _ (T1.setTop (mkF m 104 #[.val (.int x0), .val (.int x1), .val (.int x2), .val (.int x3), .val (.int x4), .val (.int (0 : Int32)), .val (.int E0), .val (.int ((E0 + (1 : Int32)) + (x3 &&& (127 : Int32)))), .val (.int ((((E0 + (1 : Int32)) + (x3 &&& (127 : Int32))) + (1 : Int32)) + (x4 &&& (127 : Int32)))), .val (.ref b1), .unset] [(.int (2 : Int32)), (.int (0 : Int32))]))
    refine own_ic_ltY X1 hx (pc := 104) (pc' := 112) (hb hby at_104) (by decide) (by decide) (by decide) ?_
    show own_G p e below s _ _ _ (T1.setTop (mkF m 112 #[.val (.int x0), .val (.int x1), .val (.int x2), .val (.int x3), .val (.int x4), .val (.int (0 : Int32)), .val (.int E0), .val (.int ((E0 + (1 : Int32)) + (x3 &&& (127 : Int32)))), .val (.int ((((E0 + (1 : Int32)) + (x3 &&& (127 : Int32))) + (1 : Int32)) + (x4 &&& (127 : Int32)))), .val (.ref b1), .unset] []))
    refine own_go (fun _ k => XS.iload X1.here hx rfl (hb hby at_112) rfl k) ?_
    show own_G p e below s _ _ _ (T1.setTop (mkF m 114 #[.val (.int x0), .val (.int x1), .val (.int x2), .val (.int x3), .val (.int x4), .val (.int (0 : Int32)), .val (.int E0), .val (.int ((E0 + (1 : Int32)) + (x3 &&& (127 : Int32)))), .val (.int ((((E0 + (1 : Int32)) + (x3 &&& (127 : Int32))) + (1 : Int32)) + (x4 &&& (127 : Int32)))), .val (.ref b1), .unset] [(.int (0 : Int32))]))
    refine own_go (fun _ k => XS.iconst X1.here hx rfl (hb hby at_114) k) ?_
    show own_G p e below s _ _ _ (T1.setTop (mkF m 115 #[.val (.int x0), .val (.int x1), .val (.int x2), .val (.int x3), .val (.int x4), .val (.int (0 : Int32)), .val (.int E0), .val (.int ((E0 + (1 : Int32)) + (x3 &&& (127 : Int32)))), .val (.int ((((E0 + (1 : Int32)) + (x3 &&& (127 : Int32))) + (1 : Int32)) + (x4 &&& (127 : Int32)))), .val (.ref b1), .unset] [(.int (3 : Int32)), (.int (0 : Int32))]))
    refine own_ic_ltY X1 hx (pc := 115) (pc' := 127) (hb hby at_115) (by decide) (by decide) (by decide) ?_
    show own_G p e below s _ _ _ (T1.setTop (mkF m 127 #[.val (.int x0), .val (.int x1), .val (.int x2), .val (.int x3), .val (.int x4), .val (.int (0 : Int32)), .val (.int E0), .val (.int ((E0 + (1 : Int32)) + (x3 &&& (127 : Int32)))), .val (.int ((((E0 + (1 : Int32)) + (x3 &&& (127 : Int32))) + (1 : Int32)) + (x4 &&& (127 : Int32)))), .val (.ref b1), .unset] []))
    refine own_go (fun _ k => XS.iconst X1.here hx rfl (hb hby at_127) k) ?_
    show own_G p e below s _ _ _ (T1.setTop (mkF m 128 #[.val (.int x0), .val (.int x1), .val (.int x2), .val (.int x3), .val (.int x4), .val (.int (0 : Int32)), .val (.int E0), .val (.int ((E0 + (1 : Int32)) + (x3 &&& (127 : Int32)))), .val (.int ((((E0 + (1 : Int32)) + (x3 &&& (127 : Int32))) + (1 : Int32)) + (x4 &&& (127 : Int32)))), .val (.ref b1), .unset] [(.int (0 : Int32))]))
    refine own_go (fun _ k => XS.istore X1.here hx rfl (hb hby at_128) rfl (l' := #[.val (.int x0), .val (.int x1), .val (.int x2), .val (.int x3), .val (.int x4), .val (.int (0 : Int32)), .val (.int E0), .val (.int ((E0 + (1 : Int32)) + (x3 &&& (127 : Int32)))), .val (.int ((((E0 + (1 : Int32)) + (x3 &&& (127 : Int32))) + (1 : Int32)) + (x4 &&& (127 : Int32)))), .val (.ref b1), .val (.int (0 : Int32))]) rfl k) ?_
    show own_G p e below s _ _ _ (T1.setTop (mkF m 130 #[.val (.int x0), .val (.int x1), .val (.int x2), .val (.int x3), .val (.int x4), .val (.int (0 : Int32)), .val (.int E0), .val (.int ((E0 + (1 : Int32)) + (x3 &&& (127 : Int32)))), .val (.int ((((E0 + (1 : Int32)) + (x3 &&& (127 : Int32))) + (1 : Int32)) + (x4 &&& (127 : Int32)))), .val (.ref b1), .val (.int (0 : Int32))] []))
    refine own_go (fun _ k => XS.aload X1.here hx rfl (hb hby at_130) rfl rfl k) ?_
    show own_G p e below s _ _ _ (T1.setTop (mkF m 132 #[.val (.int x0), .val (.int x1), .val (.int x2), .val (.int x3), .val (.int x4), .val (.int (0 : Int32)), .val (.int E0), .val (.int ((E0 + (1 : Int32)) + (x3 &&& (127 : Int32)))), .val (.int ((((E0 + (1 : Int32)) + (x3 &&& (127 : Int32))) + (1 : Int32)) + (x4 &&& (127 : Int32)))), .val (.ref b1), .val (.int (0 : Int32))] [(.ref b1)]))
    obtain ⟨_, _, ⟨T2, L2, k2, n2⟩, -, X2, ⟨Lc2, hQ2, l2, y2, z2⟩, st2⟩ := Jvm.LawKit.callS X1 hx (y := (⟨"dev/rulebound/RegexProgram", "accepts", "([I)Z"⟩ : MethodName)) hown (mvT hZ (hw _ (List.mem_of_getElem? (i := 1) rfl))) (mvT hZ (hw _ (List.mem_of_getElem? (i := 2) rfl))) (mvT hZ (hw _ (List.mem_of_getElem? (i := 3) rfl))) (mvT hZ (hw _ (List.mem_of_getElem? (i := 4) rfl))) (by decide) (backOf (W := 0) (rmA0 l Z a0 hw [] b1 k1 (0 : Int32) [] (0 : Int32) h1 n0 Z1 V1_b1 (by decide)) hZ (hw _ (List.mem_of_getElem? (i := 4) rfl)) (hw _ (List.mem_of_getElem? (i := 3) rfl)) (by decide) (by decide)) (g := (mkF m 132 #[.val (.int x0), .val (.int x1), .val (.int x2), .val (.int x3), .val (.int x4), .val (.int (0 : Int32)), .val (.int E0), .val (.int ((E0 + (1 : Int32)) + (x3 &&& (127 : Int32)))), .val (.int ((((E0 + (1 : Int32)) + (x3 &&& (127 : Int32))) + (1 : Int32)) + (x4 &&& (127 : Int32)))), .val (.ref b1), .val (.int (0 : Int32))] [(.ref b1)])) rfl (by rw [hml]; rfl) (argsL := [(.ref b1)]) (rest := []) (lenOf pd_0 rfl) rfl (by show 2 * 0 + _ ≤ _; exact Nat.le_of_eq rfl) (hb hby at_132) (fun _ _ => ⟨rfl, e1, (by decide : 1 + 0 ≤ _), (by decide : 0 + 0 ≤ _)⟩)
    dsimp only [Pt.U, Pt.locs, Pt.cells, Pt.slots] at X2 l2 y2 z2 st2 hQ2
    subst l2 y2 z2
    obtain ⟨rfl, N2q, e2⟩ := hQ2
    have N2 := Fr.app N0 N2q
    refine own_go st2 ?_
    show own_G p e below s _ _ _ (T2.setTop (mkF m 135 #[.val (.int x0), .val (.int x1), .val (.int x2), .val (.int x3), .val (.int x4), .val (.int (0 : Int32)), .val (.int E0), .val (.int ((E0 + (1 : Int32)) + (x3 &&& (127 : Int32)))), .val (.int ((((E0 + (1 : Int32)) + (x3 &&& (127 : Int32))) + (1 : Int32)) + (x4 &&& (127 : Int32)))), .val (.ref b1), .val (.int (0 : Int32))] [(.int (0 : Int32))]))
    refine own_go (fun _ k => XS.iload X2.here hx rfl (hb hby at_135) rfl k) ?_
    show own_G p e below s _ _ _ (T2.setTop (mkF m 137 #[.val (.int x0), .val (.int x1), .val (.int x2), .val (.int x3), .val (.int x4), .val (.int (0 : Int32)), .val (.int E0), .val (.int ((E0 + (1 : Int32)) + (x3 &&& (127 : Int32)))), .val (.int ((((E0 + (1 : Int32)) + (x3 &&& (127 : Int32))) + (1 : Int32)) + (x4 &&& (127 : Int32)))), .val (.ref b1), .val (.int (0 : Int32))] [(.int (0 : Int32)), (.int (0 : Int32))]))
    refine own_ic_neN X2 hx (pc := 137) (hb hby at_137) (by decide) ?_
    show own_G p e below s _ _ _ (T2.setTop (mkF m 140 #[.val (.int x0), .val (.int x1), .val (.int x2), .val (.int x3), .val (.int x4), .val (.int (0 : Int32)), .val (.int E0), .val (.int ((E0 + (1 : Int32)) + (x3 &&& (127 : Int32)))), .val (.int ((((E0 + (1 : Int32)) + (x3 &&& (127 : Int32))) + (1 : Int32)) + (x4 &&& (127 : Int32)))), .val (.ref b1), .val (.int (0 : Int32))] []))
    refine own_go (fun _ k => XS.iconst X2.here hx rfl (hb hby at_140) k) ?_
    show own_G p e below s _ _ _ (T2.setTop (mkF m 141 #[.val (.int x0), .val (.int x1), .val (.int x2), .val (.int x3), .val (.int x4), .val (.int (0 : Int32)), .val (.int E0), .val (.int ((E0 + (1 : Int32)) + (x3 &&& (127 : Int32)))), .val (.int ((((E0 + (1 : Int32)) + (x3 &&& (127 : Int32))) + (1 : Int32)) + (x4 &&& (127 : Int32)))), .val (.ref b1), .val (.int (0 : Int32))] [(.int (1 : Int32))]))
    refine own_go (fun _ k => XS.goto X2.here hx rfl (pc0 := 141) (pc' := 145) rfl (hb hby at_141) (by decide) (by decide) k) ?_
    show own_G p e below s _ _ _ (T2.setTop (mkF m 145 #[.val (.int x0), .val (.int x1), .val (.int x2), .val (.int x3), .val (.int x4), .val (.int (0 : Int32)), .val (.int E0), .val (.int ((E0 + (1 : Int32)) + (x3 &&& (127 : Int32)))), .val (.int ((((E0 + (1 : Int32)) + (x3 &&& (127 : Int32))) + (1 : Int32)) + (x4 &&& (127 : Int32)))), .val (.ref b1), .val (.int (0 : Int32))] [(.int (1 : Int32))]))
    exact own_retN (t := .boolean) (ht := by simp) X2 hx Bd.returns (BodyLoose.notSynchronized Bd) (hb hby at_145) e2 ⟨rfl, N2⟩ (by decide) (by decide)
  · skip
    suffices J : ∀ (E0 : Int32), 0 ≤ E0.toInt ∧ E0.toInt < 200 → own_G p e below s (Q_rm0 Z x0 x1 x2 x3 x4 h0 n0) 16 128 (s₁.setTop (mkF m 23 #[.val (.int x0), .val (.int x1), .val (.int x2), .val (.int x3), .val (.int x4), .val (.int (1 : Int32)), .unset, .unset, .unset, .unset, .unset] [(.int E0)])) by
      show own_G p e below s _ _ _ (s₁.setTop (mkF m 3 #[.val (.int x0), .val (.int x1), .val (.int x2), .val (.int x3), .val (.int x4), .unset, .unset, .unset, .unset, .unset, .unset] [(.int (1 : Int32))]))
      refine own_go (fun _ k => XS.istore X0.here hx rfl (hb hby at_3) rfl (l' := #[.val (.int x0), .val (.int x1), .val (.int x2), .val (.int x3), .val (.int x4), .val (.int (1 : Int32)), .unset, .unset, .unset, .unset, .unset]) rfl k) ?_
      show own_G p e below s _ _ _ (s₁.setTop (mkF m 5 #[.val (.int x0), .val (.int x1), .val (.int x2), .val (.int x3), .val (.int x4), .val (.int (1 : Int32)), .unset, .unset, .unset, .unset, .unset] []))
      refine own_go (fun _ k => XS.iloadN X0.here hx rfl (hb hby at_5) rfl k) ?_
      show own_G p e below s _ _ _ (s₁.setTop (mkF m 6 #[.val (.int x0), .val (.int x1), .val (.int x2), .val (.int x3), .val (.int x4), .val (.int (1 : Int32)), .unset, .unset, .unset, .unset, .unset] [(.int x1)]))
      refine own_go (fun _ k => XS.iconst X0.here hx rfl (hb hby at_6) k) ?_
      show own_G p e below s _ _ _ (s₁.setTop (mkF m 7 #[.val (.int x0), .val (.int x1), .val (.int x2), .val (.int x3), .val (.int x4), .val (.int (1 : Int32)), .unset, .unset, .unset, .unset, .unset] [(.int (1 : Int32)), (.int x1)]))
      refine own_go (fun _ k => XS.iand X0.here hx rfl (hb hby at_7) rfl k) ?_
      show own_G p e below s _ _ _ (s₁.setTop (mkF m 8 #[.val (.int x0), .val (.int x1), .val (.int x2), .val (.int x3), .val (.int x4), .val (.int (1 : Int32)), .unset, .unset, .unset, .unset, .unset] [(.int (x1 &&& (1 : Int32)))]))
      refine own_if_eq X0 hx (pc := 8) (pc' := 15) (hb hby at_8) (by decide) (by decide) (fun hc8 => ?_) (fun hc8 => ?_)
      · show own_G p e below s _ _ _ (s₁.setTop (mkF m 15 #[.val (.int x0), .val (.int x1), .val (.int x2), .val (.int x3), .val (.int x4), .val (.int (1 : Int32)), .unset, .unset, .unset, .unset, .unset] []))
        refine own_go (fun _ k => XS.iloadN X0.here hx rfl (hb hby at_15) rfl k) ?_
        show own_G p e below s _ _ _ (s₁.setTop (mkF m 16 #[.val (.int x0), .val (.int x1), .val (.int x2), .val (.int x3), .val (.int x4), .val (.int (1 : Int32)), .unset, .unset, .unset, .unset, .unset] [(.int x2)]))
        refine own_go (fun _ k => X0.ldcInt hx hown (mvT hZ (hw _ (List.mem_of_getElem? (i := 5) rfl))) (g := (mkF m 16 #[.val (.int x0), .val (.int x1), .val (.int x2), .val (.int x3), .val (.int x4), .val (.int (1 : Int32)), .unset, .unset, .unset, .unset, .unset] [(.int x2)])) rfl (hb hby at_16) _ k) ?_
        show own_G p e below s _ _ _ (s₁.setTop (mkF m 18 #[.val (.int x0), .val (.int x1), .val (.int x2), .val (.int x3), .val (.int x4), .val (.int (1 : Int32)), .unset, .unset, .unset, .unset, .unset] [(.int (2147483647 : Int32)), (.int x2)]))
        refine own_go (fun _ k => XS.iand X0.here hx rfl (hb hby at_18) rfl k) ?_
        show own_G p e below s _ _ _ (s₁.setTop (mkF m 19 #[.val (.int x0), .val (.int x1), .val (.int x2), .val (.int x3), .val (.int x4), .val (.int (1 : Int32)), .unset, .unset, .unset, .unset, .unset] [(.int (x2 &&& (2147483647 : Int32)))]))
        refine own_go (fun _ k => XS.sipush X0.here hx rfl (hb hby at_19) k) ?_
        show own_G p e below s _ _ _ (s₁.setTop (mkF m 22 #[.val (.int x0), .val (.int x1), .val (.int x2), .val (.int x3), .val (.int x4), .val (.int (1 : Int32)), .unset, .unset, .unset, .unset, .unset] [(.int (200 : Int32)), (.int (x2 &&& (2147483647 : Int32)))]))
        refine own_go (fun _ k => iremM X0 hx rfl (hb hby at_22) rfl (by decide) k) ?_
        exact J _ (own_e0 x2)
      · show own_G p e below s _ _ _ (s₁.setTop (mkF m 11 #[.val (.int x0), .val (.int x1), .val (.int x2), .val (.int x3), .val (.int x4), .val (.int (1 : Int32)), .unset, .unset, .unset, .unset, .unset] []))
        refine own_go (fun _ k => XS.iconst X0.here hx rfl (hb hby at_11) k) ?_
        show own_G p e below s _ _ _ (s₁.setTop (mkF m 12 #[.val (.int x0), .val (.int x1), .val (.int x2), .val (.int x3), .val (.int x4), .val (.int (1 : Int32)), .unset, .unset, .unset, .unset, .unset] [(.int (0 : Int32))]))
        refine own_go (fun _ k => XS.goto X0.here hx rfl (pc0 := 12) (pc' := 23) rfl (hb hby at_12) (by decide) (by decide) k) ?_
        exact J _ (by decide)
    intro E0 hE0
    have hq1 := own_e1 E0 x3 200 (by decide) hE0
    have hq2 := own_e1 ((E0 + (1 : Int32)) + (x3 &&& (127 : Int32))) x4 328 (by decide) ⟨by omega, by omega⟩
    have hE1 := own_pos hq1.1
    have hE2 := own_pos hq2.1
    show own_G p e below s _ _ _ (s₁.setTop (mkF m 23 #[.val (.int x0), .val (.int x1), .val (.int x2), .val (.int x3), .val (.int x4), .val (.int (1 : Int32)), .unset, .unset, .unset, .unset, .unset] [(.int E0)]))
    refine own_go (fun _ k => XS.istore X0.here hx rfl (hb hby at_23) rfl (l' := #[.val (.int x0), .val (.int x1), .val (.int x2), .val (.int x3), .val (.int x4), .val (.int (1 : Int32)), .val (.int E0), .unset, .unset, .unset, .unset]) rfl k) ?_
    show own_G p e below s _ _ _ (s₁.setTop (mkF m 25 #[.val (.int x0), .val (.int x1), .val (.int x2), .val (.int x3), .val (.int x4), .val (.int (1 : Int32)), .val (.int E0), .unset, .unset, .unset, .unset] []))
    refine own_go (fun _ k => XS.iload X0.here hx rfl (hb hby at_25) rfl k) ?_
    show own_G p e below s _ _ _ (s₁.setTop (mkF m 27 #[.val (.int x0), .val (.int x1), .val (.int x2), .val (.int x3), .val (.int x4), .val (.int (1 : Int32)), .val (.int E0), .unset, .unset, .unset, .unset] [(.int E0)]))
    refine own_go (fun _ k => XS.iconst X0.here hx rfl (hb hby at_27) k) ?_
    show own_G p e below s _ _ _ (s₁.setTop (mkF m 28 #[.val (.int x0), .val (.int x1), .val (.int x2), .val (.int x3), .val (.int x4), .val (.int (1 : Int32)), .val (.int E0), .unset, .unset, .unset, .unset] [(.int (1 : Int32)), (.int E0)]))
    refine own_go (fun _ k => XS.iadd X0.here hx rfl (hb hby at_28) rfl k) ?_
    show own_G p e below s _ _ _ (s₁.setTop (mkF m 29 #[.val (.int x0), .val (.int x1), .val (.int x2), .val (.int x3), .val (.int x4), .val (.int (1 : Int32)), .val (.int E0), .unset, .unset, .unset, .unset] [(.int (E0 + (1 : Int32)))]))
    refine own_go (fun _ k => XS.iloadN X0.here hx rfl (hb hby at_29) rfl k) ?_
    show own_G p e below s _ _ _ (s₁.setTop (mkF m 30 #[.val (.int x0), .val (.int x1), .val (.int x2), .val (.int x3), .val (.int x4), .val (.int (1 : Int32)), .val (.int E0), .unset, .unset, .unset, .unset] [(.int x3), (.int (E0 + (1 : Int32)))]))
    refine own_go (fun _ k => XS.bipush X0.here hx rfl (hb hby at_30) k) ?_
    show own_G p e below s _ _ _ (s₁.setTop (mkF m 32 #[.val (.int x0), .val (.int x1), .val (.int x2), .val (.int x3), .val (.int x4), .val (.int (1 : Int32)), .val (.int E0), .unset, .unset, .unset, .unset] [(.int (127 : Int32)), (.int x3), (.int (E0 + (1 : Int32)))]))
    refine own_go (fun _ k => XS.iand X0.here hx rfl (hb hby at_32) rfl k) ?_
    show own_G p e below s _ _ _ (s₁.setTop (mkF m 33 #[.val (.int x0), .val (.int x1), .val (.int x2), .val (.int x3), .val (.int x4), .val (.int (1 : Int32)), .val (.int E0), .unset, .unset, .unset, .unset] [(.int (x3 &&& (127 : Int32))), (.int (E0 + (1 : Int32)))]))
    refine own_go (fun _ k => XS.iadd X0.here hx rfl (hb hby at_33) rfl k) ?_
    show own_G p e below s _ _ _ (s₁.setTop (mkF m 34 #[.val (.int x0), .val (.int x1), .val (.int x2), .val (.int x3), .val (.int x4), .val (.int (1 : Int32)), .val (.int E0), .unset, .unset, .unset, .unset] [(.int ((E0 + (1 : Int32)) + (x3 &&& (127 : Int32))))]))
    refine own_go (fun _ k => XS.istore X0.here hx rfl (hb hby at_34) rfl (l' := #[.val (.int x0), .val (.int x1), .val (.int x2), .val (.int x3), .val (.int x4), .val (.int (1 : Int32)), .val (.int E0), .val (.int ((E0 + (1 : Int32)) + (x3 &&& (127 : Int32)))), .unset, .unset, .unset]) rfl k) ?_
    show own_G p e below s _ _ _ (s₁.setTop (mkF m 36 #[.val (.int x0), .val (.int x1), .val (.int x2), .val (.int x3), .val (.int x4), .val (.int (1 : Int32)), .val (.int E0), .val (.int ((E0 + (1 : Int32)) + (x3 &&& (127 : Int32)))), .unset, .unset, .unset] []))
    refine own_go (fun _ k => XS.iload X0.here hx rfl (hb hby at_36) rfl k) ?_
    show own_G p e below s _ _ _ (s₁.setTop (mkF m 38 #[.val (.int x0), .val (.int x1), .val (.int x2), .val (.int x3), .val (.int x4), .val (.int (1 : Int32)), .val (.int E0), .val (.int ((E0 + (1 : Int32)) + (x3 &&& (127 : Int32)))), .unset, .unset, .unset] [(.int ((E0 + (1 : Int32)) + (x3 &&& (127 : Int32))))]))
    refine own_go (fun _ k => XS.iconst X0.here hx rfl (hb hby at_38) k) ?_
    show own_G p e below s _ _ _ (s₁.setTop (mkF m 39 #[.val (.int x0), .val (.int x1), .val (.int x2), .val (.int x3), .val (.int x4), .val (.int (1 : Int32)), .val (.int E0), .val (.int ((E0 + (1 : Int32)) + (x3 &&& (127 : Int32)))), .unset, .unset, .unset] [(.int (1 : Int32)), (.int ((E0 + (1 : Int32)) + (x3 &&& (127 : Int32))))]))
    refine own_go (fun _ k => XS.iadd X0.here hx rfl (hb hby at_39) rfl k) ?_
    show own_G p e below s _ _ _ (s₁.setTop (mkF m 40 #[.val (.int x0), .val (.int x1), .val (.int x2), .val (.int x3), .val (.int x4), .val (.int (1 : Int32)), .val (.int E0), .val (.int ((E0 + (1 : Int32)) + (x3 &&& (127 : Int32)))), .unset, .unset, .unset] [(.int (((E0 + (1 : Int32)) + (x3 &&& (127 : Int32))) + (1 : Int32)))]))
    refine own_go (fun _ k => XS.iload X0.here hx rfl (hb hby at_40) rfl k) ?_
    show own_G p e below s _ _ _ (s₁.setTop (mkF m 42 #[.val (.int x0), .val (.int x1), .val (.int x2), .val (.int x3), .val (.int x4), .val (.int (1 : Int32)), .val (.int E0), .val (.int ((E0 + (1 : Int32)) + (x3 &&& (127 : Int32)))), .unset, .unset, .unset] [(.int x4), (.int (((E0 + (1 : Int32)) + (x3 &&& (127 : Int32))) + (1 : Int32)))]))
    refine own_go (fun _ k => XS.bipush X0.here hx rfl (hb hby at_42) k) ?_
    show own_G p e below s _ _ _ (s₁.setTop (mkF m 44 #[.val (.int x0), .val (.int x1), .val (.int x2), .val (.int x3), .val (.int x4), .val (.int (1 : Int32)), .val (.int E0), .val (.int ((E0 + (1 : Int32)) + (x3 &&& (127 : Int32)))), .unset, .unset, .unset] [(.int (127 : Int32)), (.int x4), (.int (((E0 + (1 : Int32)) + (x3 &&& (127 : Int32))) + (1 : Int32)))]))
    refine own_go (fun _ k => XS.iand X0.here hx rfl (hb hby at_44) rfl k) ?_
    show own_G p e below s _ _ _ (s₁.setTop (mkF m 45 #[.val (.int x0), .val (.int x1), .val (.int x2), .val (.int x3), .val (.int x4), .val (.int (1 : Int32)), .val (.int E0), .val (.int ((E0 + (1 : Int32)) + (x3 &&& (127 : Int32)))), .unset, .unset, .unset] [(.int (x4 &&& (127 : Int32))), (.int (((E0 + (1 : Int32)) + (x3 &&& (127 : Int32))) + (1 : Int32)))]))
    refine own_go (fun _ k => XS.iadd X0.here hx rfl (hb hby at_45) rfl k) ?_
    show own_G p e below s _ _ _ (s₁.setTop (mkF m 46 #[.val (.int x0), .val (.int x1), .val (.int x2), .val (.int x3), .val (.int x4), .val (.int (1 : Int32)), .val (.int E0), .val (.int ((E0 + (1 : Int32)) + (x3 &&& (127 : Int32)))), .unset, .unset, .unset] [(.int ((((E0 + (1 : Int32)) + (x3 &&& (127 : Int32))) + (1 : Int32)) + (x4 &&& (127 : Int32))))]))
    refine own_go (fun _ k => XS.istore X0.here hx rfl (hb hby at_46) rfl (l' := #[.val (.int x0), .val (.int x1), .val (.int x2), .val (.int x3), .val (.int x4), .val (.int (1 : Int32)), .val (.int E0), .val (.int ((E0 + (1 : Int32)) + (x3 &&& (127 : Int32)))), .val (.int ((((E0 + (1 : Int32)) + (x3 &&& (127 : Int32))) + (1 : Int32)) + (x4 &&& (127 : Int32)))), .unset, .unset]) rfl k) ?_
    show own_G p e below s _ _ _ (s₁.setTop (mkF m 48 #[.val (.int x0), .val (.int x1), .val (.int x2), .val (.int x3), .val (.int x4), .val (.int (1 : Int32)), .val (.int E0), .val (.int ((E0 + (1 : Int32)) + (x3 &&& (127 : Int32)))), .val (.int ((((E0 + (1 : Int32)) + (x3 &&& (127 : Int32))) + (1 : Int32)) + (x4 &&& (127 : Int32)))), .unset, .unset] []))
    refine own_go (fun _ k => XS.iload X0.here hx rfl (hb hby at_48) rfl k) ?_
    show own_G p e below s _ _ _ (s₁.setTop (mkF m 50 #[.val (.int x0), .val (.int x1), .val (.int x2), .val (.int x3), .val (.int x4), .val (.int (1 : Int32)), .val (.int E0), .val (.int ((E0 + (1 : Int32)) + (x3 &&& (127 : Int32)))), .val (.int ((((E0 + (1 : Int32)) + (x3 &&& (127 : Int32))) + (1 : Int32)) + (x4 &&& (127 : Int32)))), .unset, .unset] [(.int (1 : Int32))]))
    obtain ⟨T3, h3, k3, X3, e3, E3, A3, st3⟩ := newP X0 hx hZ (hw _ (List.mem_of_getElem? (i := 0) rfl)) e0 (g := (mkF m 50 #[.val (.int x0), .val (.int x1), .val (.int x2), .val (.int x3), .val (.int x4), .val (.int (1 : Int32)), .val (.int E0), .val (.int ((E0 + (1 : Int32)) + (x3 &&& (127 : Int32)))), .val (.int ((((E0 + (1 : Int32)) + (x3 &&& (127 : Int32))) + (1 : Int32)) + (x4 &&& (127 : Int32)))), .unset, .unset] [(.int (1 : Int32))])) rfl (hb hby at_50) rfl (by decide) (cap := 1) (by decide) (by decide) (by decide) (by decide)
    obtain ⟨b3, g3⟩ : ∃ z, z = h0.size := ⟨_, rfl⟩
    rw [← g3] at A3 st3
    refine own_go st3 ?_
    have g_b3 : n0 ≤ b3 := Nat.le_trans Z0 (Nat.le_of_eq g3.symm)
    have Z3 : n0 ≤ h3.size := Nat.le_trans Z0 E3.1
    have V3_b3 : Arv Z h3 b3 k3 .int (1 : Int32) [(.int (0 : Int32))] (.int (0 : Int32)) := (Arv.new A3 (by decide)).pad (pad_rep [] (.int (0 : Int32)) 1)
    show own_G p e below s _ _ _ (T3.setTop (mkF m 52 #[.val (.int x0), .val (.int x1), .val (.int x2), .val (.int x3), .val (.int x4), .val (.int (1 : Int32)), .val (.int E0), .val (.int ((E0 + (1 : Int32)) + (x3 &&& (127 : Int32)))), .val (.int ((((E0 + (1 : Int32)) + (x3 &&& (127 : Int32))) + (1 : Int32)) + (x4 &&& (127 : Int32)))), .unset, .unset] [(.ref b3)]))
    refine own_go (fun _ k => XS.astore X3.here hx rfl (hb hby at_52) rfl rfl (l' := #[.val (.int x0), .val (.int x1), .val (.int x2), .val (.int x3), .val (.int x4), .val (.int (1 : Int32)), .val (.int E0), .val (.int ((E0 + (1 : Int32)) + (x3 &&& (127 : Int32)))), .val (.int ((((E0 + (1 : Int32)) + (x3 &&& (127 : Int32))) + (1 : Int32)) + (x4 &&& (127 : Int32)))), .val (.ref b3), .unset]) rfl k) ?_
    show own_G p e below s _ _ _ (T3.setTop (mkF m 54 #[.val (.int x0), .val (.int x1), .val (.int x2), .val (.int x3), .val (.int x4), .val (.int (1 : Int32)), .val (.int E0), .val (.int ((E0 + (1 : Int32)) + (x3 &&& (127 : Int32)))), .val (.int ((((E0 + (1 : Int32)) + (x3 &&& (127 : Int32))) + (1 : Int32)) + (x4 &&& (127 : Int32)))), .val (.ref b3), .unset] []))
    refine own_go (fun _ k => XS.iload X3.here hx rfl (hb hby at_54) rfl k) ?_
    show own_G p e below s _ _ _ (T3.setTop (mkF m 56 #[.val (.int x0), .val (.int x1), .val (.int x2), .val (.int x3), .val (.int x4), .val (.int (1 : Int32)), .val (.int E0), .val (.int ((E0 + (1 : Int32)) + (x3 &&& (127 : Int32)))), .val (.int ((((E0 + (1 : Int32)) + (x3 &&& (127 : Int32))) + (1 : Int32)) + (x4 &&& (127 : Int32)))), .val (.ref b3), .unset] [(.int (1 : Int32))]))
    refine own_go (fun _ k => XS.iconst X3.here hx rfl (hb hby at_56) k) ?_
    show own_G p e below s _ _ _ (T3.setTop (mkF m 57 #[.val (.int x0), .val (.int x1), .val (.int x2), .val (.int x3), .val (.int x4), .val (.int (1 : Int32)), .val (.int E0), .val (.int ((E0 + (1 : Int32)) + (x3 &&& (127 : Int32)))), .val (.int ((((E0 + (1 : Int32)) + (x3 &&& (127 : Int32))) + (1 : Int32)) + (x4 &&& (127 : Int32)))), .val (.ref b3), .unset] [(.int (1 : Int32)), (.int (1 : Int32))]))
    refine own_ic_ltN X3 hx (pc := 57) (hb hby at_57) (by decide) ?_
    show own_G p e below s _ _ _ (T3.setTop (mkF m 60 #[.val (.int x0), .val (.int x1), .val (.int x2), .val (.int x3), .val (.int x4), .val (.int (1 : Int32)), .val (.int E0), .val (.int ((E0 + (1 : Int32)) + (x3 &&& (127 : Int32)))), .val (.int ((((E0 + (1 : Int32)) + (x3 &&& (127 : Int32))) + (1 : Int32)) + (x4 &&& (127 : Int32)))), .val (.ref b3), .unset] []))
    refine own_go (fun _ k => XS.aload X3.here hx rfl (hb hby at_60) rfl rfl k) ?_
    show own_G p e below s _ _ _ (T3.setTop (mkF m 62 #[.val (.int x0), .val (.int x1), .val (.int x2), .val (.int x3), .val (.int x4), .val (.int (1 : Int32)), .val (.int E0), .val (.int ((E0 + (1 : Int32)) + (x3 &&& (127 : Int32)))), .val (.int ((((E0 + (1 : Int32)) + (x3 &&& (127 : Int32))) + (1 : Int32)) + (x4 &&& (127 : Int32)))), .val (.ref b3), .unset] [(.ref b3)]))
    refine own_go (fun _ k => XS.iconst X3.here hx rfl (hb hby at_62) k) ?_
    show own_G p e below s _ _ _ (T3.setTop (mkF m 63 #[.val (.int x0), .val (.int x1), .val (.int x2), .val (.int x3), .val (.int x4), .val (.int (1 : Int32)), .val (.int E0), .val (.int ((E0 + (1 : Int32)) + (x3 &&& (127 : Int32)))), .val (.int ((((E0 + (1 : Int32)) + (x3 &&& (127 : Int32))) + (1 : Int32)) + (x4 &&& (127 : Int32)))), .val (.ref b3), .unset] [(.int (0 : Int32)), (.ref b3)]))
    refine own_go (fun _ k => XS.iload X3.here hx rfl (hb hby at_63) rfl k) ?_
    show own_G p e below s _ _ _ (T3.setTop (mkF m 65 #[.val (.int x0), .val (.int x1), .val (.int x2), .val (.int x3), .val (.int x4), .val (.int (1 : Int32)), .val (.int E0), .val (.int ((E0 + (1 : Int32)) + (x3 &&& (127 : Int32)))), .val (.int ((((E0 + (1 : Int32)) + (x3 &&& (127 : Int32))) + (1 : Int32)) + (x4 &&& (127 : Int32)))), .val (.ref b3), .unset] [(.int E0), (.int (0 : Int32)), (.ref b3)]))
    have Vc4 := V3_b3
    obtain ⟨cl4, Ar4, q4, S4, M4, H4, G4⟩ := Vc4
    have hin4 := inb_of (j := (0 : Int32)) S4 ⟨(by decide), (by decide)⟩
    obtain ⟨T5, h5, X5, e5, W5, st5⟩ := stI X3 hx hZ e3 Ar4 (j := (0 : Int32)) hin4 (g := (mkF m 65 #[.val (.int x0), .val (.int x1), .val (.int x2), .val (.int x3), .val (.int x4), .val (.int (1 : Int32)), .val (.int E0), .val (.int ((E0 + (1 : Int32)) + (x3 &&& (127 : Int32)))), .val (.int ((((E0 + (1 : Int32)) + (x3 &&& (127 : Int32))) + (1 : Int32)) + (x4 &&& (127 : Int32)))), .val (.ref b3), .unset] [(.int E0), (.int (0 : Int32)), (.ref b3)])) rfl rfl (hb hby at_65)
    refine own_go st5 ?_
    have V5_b3 : Arv Z h5 b3 k3 .int (1 : Int32) [(.int E0)] (.int (0 : Int32)) := Arv.set Ar4 q4 S4 M4 H4 G4 rfl W5 0 rfl (Nat.le_of_ble_eq_true rfl)
    have Z5 : n0 ≤ h5.size := by rw [W5.size]; exact Z3
    have N5 := Fr.snoc X5 N0 g_b3
    show own_G p e below s _ _ _ (T5.setTop (mkF m 66 #[.val (.int x0), .val (.int x1), .val (.int x2), .val (.int x3), .val (.int x4), .val (.int (1 : Int32)), .val (.int E0), .val (.int ((E0 + (1 : Int32)) + (x3 &&& (127 : Int32)))), .val (.int ((((E0 + (1 : Int32)) + (x3 &&& (127 : Int32))) + (1 : Int32)) + (x4 &&& (127 : Int32)))), .val (.ref b3), .unset] []))
    refine own_go (fun _ k => XS.iload X5.here hx rfl (hb hby at_66) rfl k) ?_
    show own_G p e below s _ _ _ (T5.setTop (mkF m 68 #[.val (.int x0), .val (.int x1), .val (.int x2), .val (.int x3), .val (.int x4), .val (.int (1 : Int32)), .val (.int E0), .val (.int ((E0 + (1 : Int32)) + (x3 &&& (127 : Int32)))), .val (.int ((((E0 + (1 : Int32)) + (x3 &&& (127 : Int32))) + (1 : Int32)) + (x4 &&& (127 : Int32)))), .val (.ref b3), .unset] [(.int (1 : Int32))]))
    refine own_go (fun _ k => XS.iconst X5.here hx rfl (hb hby at_68) k) ?_
    show own_G p e below s _ _ _ (T5.setTop (mkF m 69 #[.val (.int x0), .val (.int x1), .val (.int x2), .val (.int x3), .val (.int x4), .val (.int (1 : Int32)), .val (.int E0), .val (.int ((E0 + (1 : Int32)) + (x3 &&& (127 : Int32)))), .val (.int ((((E0 + (1 : Int32)) + (x3 &&& (127 : Int32))) + (1 : Int32)) + (x4 &&& (127 : Int32)))), .val (.ref b3), .unset] [(.int (2 : Int32)), (.int (1 : Int32))]))
    refine own_ic_ltY X5 hx (pc := 69) (pc' := 78) (hb hby at_69) (by decide) (by decide) (by decide) ?_
    show own_G p e below s _ _ _ (T5.setTop (mkF m 78 #[.val (.int x0), .val (.int x1), .val (.int x2), .val (.int x3), .val (.int x4), .val (.int (1 : Int32)), .val (.int E0), .val (.int ((E0 + (1 : Int32)) + (x3 &&& (127 : Int32)))), .val (.int ((((E0 + (1 : Int32)) + (x3 &&& (127 : Int32))) + (1 : Int32)) + (x4 &&& (127 : Int32)))), .val (.ref b3), .unset] []))
    refine own_go (fun _ k => XS.iload X5.here hx rfl (hb hby at_78) rfl k) ?_
    show own_G p e below s _ _ _ (T5.setTop (mkF m 80 #[.val (.int x0), .val (.int x1), .val (.int x2), .val (.int x3), .val (.int x4), .val (.int (1 : Int32)), .val (.int E0), .val (.int ((E0 + (1 : Int32)) + (x3 &&& (127 : Int32)))), .val (.int ((((E0 + (1 : Int32)) + (x3 &&& (127 : Int32))) + (1 : Int32)) + (x4 &&& (127 : Int32)))), .val (.ref b3), .unset] [(.int (1 : Int32))]))
    refine own_go (fun _ k => XS.iconst X5.here hx rfl (hb hby at_80) k) ?_
    show own_G p e below s _ _ _ (T5.setTop (mkF m 81 #[.val (.int x0), .val (.int x1), .val (.int x2), .val (.int x3), .val (.int x4), .val (.int (1 : Int32)), .val (.int E0), .val (.int ((E0 + (1 : Int32)) + (x3 &&& (127 : Int32)))), .val (.int ((((E0 + (1 : Int32)) + (x3 &&& (127 : Int32))) + (1 : Int32)) + (x4 &&& (127 : Int32)))), .val (.ref b3), .unset] [(.int (3 : Int32)), (.int (1 : Int32))]))
    refine own_ic_ltY X5 hx (pc := 81) (pc' := 90) (hb hby at_81) (by decide) (by decide) (by decide) ?_
    show own_G p e below s _ _ _ (T5.setTop (mkF m 90 #[.val (.int x0), .val (.int x1), .val (.int x2), .val (.int x3), .val (.int x4), .val (.int (1 : Int32)), .val (.int E0), .val (.int ((E0 + (1 : Int32)) + (x3 &&& (127 : Int32)))), .val (.int ((((E0 + (1 : Int32)) + (x3 &&& (127 : Int32))) + (1 : Int32)) + (x4 &&& (127 : Int32)))), .val (.ref b3), .unset] []))
    refine own_go (fun _ k => XS.iload X5.here hx rfl (hb hby at_90) rfl k) ?_
    show own_G p e below s _ _ _ (T5.setTop (mkF m 92 #[.val (.int x0), .val (.int x1), .val (.int x2), .val (.int x3), .val (.int x4), .val (.int (1 : Int32)), .val (.int E0), .val (.int ((E0 + (1 : Int32)) + (x3 &&& (127 : Int32)))), .val (.int ((((E0 + (1 : Int32)) + (x3 &&& (127 : Int32))) + (1 : Int32)) + (x4 &&& (127 : Int32)))), .val (.ref b3), .unset] [(.int (1 : Int32))]))
    refine own_go (fun _ k => XS.iconst X5.here hx rfl (hb hby at_92) k) ?_
    show own_G p e below s _ _ _ (T5.setTop (mkF m 93 #[.val (.int x0), .val (.int x1), .val (.int x2), .val (.int x3), .val (.int x4), .val (.int (1 : Int32)), .val (.int E0), .val (.int ((E0 + (1 : Int32)) + (x3 &&& (127 : Int32)))), .val (.int ((((E0 + (1 : Int32)) + (x3 &&& (127 : Int32))) + (1 : Int32)) + (x4 &&& (127 : Int32)))), .val (.ref b3), .unset] [(.int (1 : Int32)), (.int (1 : Int32))]))
    refine own_ic_ltN X5 hx (pc := 93) (hb hby at_93) (by decide) ?_
    show own_G p e below s _ _ _ (T5.setTop (mkF m 96 #[.val (.int x0), .val (.int x1), .val (.int x2), .val (.int x3), .val (.int x4), .val (.int (1 : Int32)), .val (.int E0), .val (.int ((E0 + (1 : Int32)) + (x3 &&& (127 : Int32)))), .val (.int ((((E0 + (1 : Int32)) + (x3 &&& (127 : Int32))) + (1 : Int32)) + (x4 &&& (127 : Int32)))), .val (.ref b3), .unset] []))
    refine own_go (fun _ k => XS.iload X5.here hx rfl (hb hby at_96) rfl k) ?_
    show own_G p e below s _ _ _ (T5.setTop (mkF m 98 #[.val (.int x0), .val (.int x1), .val (.int x2), .val (.int x3), .val (.int x4), .val (.int (1 : Int32)), .val (.int E0), .val (.int ((E0 + (1 : Int32)) + (x3 &&& (127 : Int32)))), .val (.int ((((E0 + (1 : Int32)) + (x3 &&& (127 : Int32))) + (1 : Int32)) + (x4 &&& (127 : Int32)))), .val (.ref b3), .unset] [(.int E0)]))
    refine own_if_eq X5 hx (pc := 98) (pc' := 123) (hb hby at_98) (by decide) (by decide) (fun hc98 => ?_) (fun hc98 => ?_)
    · show own_G p e below s _ _ _ (T5.setTop (mkF m 123 #[.val (.int x0), .val (.int x1), .val (.int x2), .val (.int x3), .val (.int x4), .val (.int (1 : Int32)), .val (.int E0), .val (.int ((E0 + (1 : Int32)) + (x3 &&& (127 : Int32)))), .val (.int ((((E0 + (1 : Int32)) + (x3 &&& (127 : Int32))) + (1 : Int32)) + (x4 &&& (127 : Int32)))), .val (.ref b3), .unset] []))
      refine own_go (fun _ k => XS.iconst X5.here hx rfl (hb hby at_123) k) ?_
      show own_G p e below s _ _ _ (T5.setTop (mkF m 124 #[.val (.int x0), .val (.int x1), .val (.int x2), .val (.int x3), .val (.int x4), .val (.int (1 : Int32)), .val (.int E0), .val (.int ((E0 + (1 : Int32)) + (x3 &&& (127 : Int32)))), .val (.int ((((E0 + (1 : Int32)) + (x3 &&& (127 : Int32))) + (1 : Int32)) + (x4 &&& (127 : Int32)))), .val (.ref b3), .unset] [(.int (1 : Int32))]))
      refine own_go (fun _ k => XS.goto X5.here hx rfl (pc0 := 124) (pc' := 128) rfl (hb hby at_124) (by decide) (by decide) k) ?_
      show own_G p e below s _ _ _ (T5.setTop (mkF m 128 #[.val (.int x0), .val (.int x1), .val (.int x2), .val (.int x3), .val (.int x4), .val (.int (1 : Int32)), .val (.int E0), .val (.int ((E0 + (1 : Int32)) + (x3 &&& (127 : Int32)))), .val (.int ((((E0 + (1 : Int32)) + (x3 &&& (127 : Int32))) + (1 : Int32)) + (x4 &&& (127 : Int32)))), .val (.ref b3), .unset] [(.int (1 : Int32))]))
      refine own_go (fun _ k => XS.istore X5.here hx rfl (hb hby at_128) rfl (l' := #[.val (.int x0), .val (.int x1), .val (.int x2), .val (.int x3), .val (.int x4), .val (.int (1 : Int32)), .val (.int E0), .val (.int ((E0 + (1 : Int32)) + (x3 &&& (127 : Int32)))), .val (.int ((((E0 + (1 : Int32)) + (x3 &&& (127 : Int32))) + (1 : Int32)) + (x4 &&& (127 : Int32)))), .val (.ref b3), .val (.int (1 : Int32))]) rfl k) ?_
      show own_G p e below s _ _ _ (T5.setTop (mkF m 130 #[.val (.int x0), .val (.int x1), .val (.int x2), .val (.int x3), .val (.int x4), .val (.int (1 : Int32)), .val (.int E0), .val (.int ((E0 + (1 : Int32)) + (x3 &&& (127 : Int32)))), .val (.int ((((E0 + (1 : Int32)) + (x3 &&& (127 : Int32))) + (1 : Int32)) + (x4 &&& (127 : Int32)))), .val (.ref b3), .val (.int (1 : Int32))] []))
      refine own_go (fun _ k => XS.aload X5.here hx rfl (hb hby at_130) rfl rfl k) ?_
      show own_G p e below s _ _ _ (T5.setTop (mkF m 132 #[.val (.int x0), .val (.int x1), .val (.int x2), .val (.int x3), .val (.int x4), .val (.int (1 : Int32)), .val (.int E0), .val (.int ((E0 + (1 : Int32)) + (x3 &&& (127 : Int32)))), .val (.int ((((E0 + (1 : Int32)) + (x3 &&& (127 : Int32))) + (1 : Int32)) + (x4 &&& (127 : Int32)))), .val (.ref b3), .val (.int (1 : Int32))] [(.ref b3)]))
      obtain ⟨_, _, ⟨T6, L6, k6, n6⟩, -, X6, ⟨Lc6, hQ6, l6, y6, z6⟩, st6⟩ := Jvm.LawKit.callS X5 hx (y := (⟨"dev/rulebound/RegexProgram", "accepts", "([I)Z"⟩ : MethodName)) hown (mvT hZ (hw _ (List.mem_of_getElem? (i := 1) rfl))) (mvT hZ (hw _ (List.mem_of_getElem? (i := 2) rfl))) (mvT hZ (hw _ (List.mem_of_getElem? (i := 3) rfl))) (mvT hZ (hw _ (List.mem_of_getElem? (i := 4) rfl))) (by decide) (backOf (W := 0) (rmA1 l Z a0 hw [] b3 k3 (1 : Int32) [(.int E0)] E0 h5 n0 Z5 V5_b3 (by decide) rfl hc98) hZ (hw _ (List.mem_of_getElem? (i := 4) rfl)) (hw _ (List.mem_of_getElem? (i := 3) rfl)) (by decide) (by decide)) (g := (mkF m 132 #[.val (.int x0), .val (.int x1), .val (.int x2), .val (.int x3), .val (.int x4), .val (.int (1 : Int32)), .val (.int E0), .val (.int ((E0 + (1 : Int32)) + (x3 &&& (127 : Int32)))), .val (.int ((((E0 + (1 : Int32)) + (x3 &&& (127 : Int32))) + (1 : Int32)) + (x4 &&& (127 : Int32)))), .val (.ref b3), .val (.int (1 : Int32))] [(.ref b3)])) rfl (by rw [hml]; rfl) (argsL := [(.ref b3)]) (rest := []) (lenOf pd_0 rfl) rfl (by show 2 * 0 + _ ≤ _; exact Nat.le_of_eq rfl) (hb hby at_132) (fun _ _ => ⟨rfl, e5, (by decide : 1 + 0 ≤ _), (by decide : 1 + 0 ≤ _)⟩)
      dsimp only [Pt.U, Pt.locs, Pt.cells, Pt.slots] at X6 l6 y6 z6 st6 hQ6
      subst l6 y6 z6
      obtain ⟨rfl, N6q, e6⟩ := hQ6
      have N6 := Fr.app N5 N6q
      refine own_go st6 ?_
      show own_G p e below s _ _ _ (T6.setTop (mkF m 135 #[.val (.int x0), .val (.int x1), .val (.int x2), .val (.int x3), .val (.int x4), .val (.int (1 : Int32)), .val (.int E0), .val (.int ((E0 + (1 : Int32)) + (x3 &&& (127 : Int32)))), .val (.int ((((E0 + (1 : Int32)) + (x3 &&& (127 : Int32))) + (1 : Int32)) + (x4 &&& (127 : Int32)))), .val (.ref b3), .val (.int (1 : Int32))] [(.int (1 : Int32))]))
      refine own_go (fun _ k => XS.iload X6.here hx rfl (hb hby at_135) rfl k) ?_
      show own_G p e below s _ _ _ (T6.setTop (mkF m 137 #[.val (.int x0), .val (.int x1), .val (.int x2), .val (.int x3), .val (.int x4), .val (.int (1 : Int32)), .val (.int E0), .val (.int ((E0 + (1 : Int32)) + (x3 &&& (127 : Int32)))), .val (.int ((((E0 + (1 : Int32)) + (x3 &&& (127 : Int32))) + (1 : Int32)) + (x4 &&& (127 : Int32)))), .val (.ref b3), .val (.int (1 : Int32))] [(.int (1 : Int32)), (.int (1 : Int32))]))
      refine own_ic_neN X6 hx (pc := 137) (hb hby at_137) (by decide) ?_
      show own_G p e below s _ _ _ (T6.setTop (mkF m 140 #[.val (.int x0), .val (.int x1), .val (.int x2), .val (.int x3), .val (.int x4), .val (.int (1 : Int32)), .val (.int E0), .val (.int ((E0 + (1 : Int32)) + (x3 &&& (127 : Int32)))), .val (.int ((((E0 + (1 : Int32)) + (x3 &&& (127 : Int32))) + (1 : Int32)) + (x4 &&& (127 : Int32)))), .val (.ref b3), .val (.int (1 : Int32))] []))
      refine own_go (fun _ k => XS.iconst X6.here hx rfl (hb hby at_140) k) ?_
      show own_G p e below s _ _ _ (T6.setTop (mkF m 141 #[.val (.int x0), .val (.int x1), .val (.int x2), .val (.int x3), .val (.int x4), .val (.int (1 : Int32)), .val (.int E0), .val (.int ((E0 + (1 : Int32)) + (x3 &&& (127 : Int32)))), .val (.int ((((E0 + (1 : Int32)) + (x3 &&& (127 : Int32))) + (1 : Int32)) + (x4 &&& (127 : Int32)))), .val (.ref b3), .val (.int (1 : Int32))] [(.int (1 : Int32))]))
      refine own_go (fun _ k => XS.goto X6.here hx rfl (pc0 := 141) (pc' := 145) rfl (hb hby at_141) (by decide) (by decide) k) ?_
      show own_G p e below s _ _ _ (T6.setTop (mkF m 145 #[.val (.int x0), .val (.int x1), .val (.int x2), .val (.int x3), .val (.int x4), .val (.int (1 : Int32)), .val (.int E0), .val (.int ((E0 + (1 : Int32)) + (x3 &&& (127 : Int32)))), .val (.int ((((E0 + (1 : Int32)) + (x3 &&& (127 : Int32))) + (1 : Int32)) + (x4 &&& (127 : Int32)))), .val (.ref b3), .val (.int (1 : Int32))] [(.int (1 : Int32))]))
      exact own_retN (t := .boolean) (ht := by simp) X6 hx Bd.returns (BodyLoose.notSynchronized Bd) (hb hby at_145) e6 ⟨rfl, N6⟩ (by decide) (by decide)
    · show own_G p e below s _ _ _ (T5.setTop (mkF m 101 #[.val (.int x0), .val (.int x1), .val (.int x2), .val (.int x3), .val (.int x4), .val (.int (1 : Int32)), .val (.int E0), .val (.int ((E0 + (1 : Int32)) + (x3 &&& (127 : Int32)))), .val (.int ((((E0 + (1 : Int32)) + (x3 &&& (127 : Int32))) + (1 : Int32)) + (x4 &&& (127 : Int32)))), .val (.ref b3), .unset] []))
      refine own_go (fun _ k => XS.iload X5.here hx rfl (hb hby at_101) rfl k) ?_
      show own_G p e below s _ _ _ (T5.setTop (mkF m 103 #[.val (.int x0), .val (.int x1), .val (.int x2), .val (.int x3), .val (.int x4), .val (.int (1 : Int32)), .val (.int E0), .val (.int ((E0 + (1 : Int32)) + (x3 &&& (127 : Int32)))), .val (.int ((((E0 + (1 : Int32)) + (x3 &&& (127 : Int32))) + (1 : Int32)) + (x4 &&& (127 : Int32)))), .val (.ref b3), .unset] [(.int (1 : Int32))]))
      refine own_go (fun _ k => XS.iconst X5.here hx rfl (hb hby at_103) k) ?_
      show own_G p e below s _ _ _ (T5.setTop (mkF m 104 #[.val (.int x0), .val (.int x1), .val (.int x2), .val (.int x3), .val (.int x4), .val (.int (1 : Int32)), .val (.int E0), .val (.int ((E0 + (1 : Int32)) + (x3 &&& (127 : Int32)))), .val (.int ((((E0 + (1 : Int32)) + (x3 &&& (127 : Int32))) + (1 : Int32)) + (x4 &&& (127 : Int32)))), .val (.ref b3), .unset] [(.int (2 : Int32)), (.int (1 : Int32))]))
      refine own_ic_ltY X5 hx (pc := 104) (pc' := 112) (hb hby at_104) (by decide) (by decide) (by decide) ?_
      show own_G p e below s _ _ _ (T5.setTop (mkF m 112 #[.val (.int x0), .val (.int x1), .val (.int x2), .val (.int x3), .val (.int x4), .val (.int (1 : Int32)), .val (.int E0), .val (.int ((E0 + (1 : Int32)) + (x3 &&& (127 : Int32)))), .val (.int ((((E0 + (1 : Int32)) + (x3 &&& (127 : Int32))) + (1 : Int32)) + (x4 &&& (127 : Int32)))), .val (.ref b3), .unset] []))
      refine own_go (fun _ k => XS.iload X5.here hx rfl (hb hby at_112) rfl k) ?_
      show own_G p e below s _ _ _ (T5.setTop (mkF m 114 #[.val (.int x0), .val (.int x1), .val (.int x2), .val (.int x3), .val (.int x4), .val (.int (1 : Int32)), .val (.int E0), .val (.int ((E0 + (1 : Int32)) + (x3 &&& (127 : Int32)))), .val (.int ((((E0 + (1 : Int32)) + (x3 &&& (127 : Int32))) + (1 : Int32)) + (x4 &&& (127 : Int32)))), .val (.ref b3), .unset] [(.int (1 : Int32))]))
      refine own_go (fun _ k => XS.iconst X5.here hx rfl (hb hby at_114) k) ?_
      show own_G p e below s _ _ _ (T5.setTop (mkF m 115 #[.val (.int x0), .val (.int x1), .val (.int x2), .val (.int x3), .val (.int x4), .val (.int (1 : Int32)), .val (.int E0), .val (.int ((E0 + (1 : Int32)) + (x3 &&& (127 : Int32)))), .val (.int ((((E0 + (1 : Int32)) + (x3 &&& (127 : Int32))) + (1 : Int32)) + (x4 &&& (127 : Int32)))), .val (.ref b3), .unset] [(.int (3 : Int32)), (.int (1 : Int32))]))
      refine own_ic_ltY X5 hx (pc := 115) (pc' := 127) (hb hby at_115) (by decide) (by decide) (by decide) ?_
      show own_G p e below s _ _ _ (T5.setTop (mkF m 127 #[.val (.int x0), .val (.int x1), .val (.int x2), .val (.int x3), .val (.int x4), .val (.int (1 : Int32)), .val (.int E0), .val (.int ((E0 + (1 : Int32)) + (x3 &&& (127 : Int32)))), .val (.int ((((E0 + (1 : Int32)) + (x3 &&& (127 : Int32))) + (1 : Int32)) + (x4 &&& (127 : Int32)))), .val (.ref b3), .unset] []))
      refine own_go (fun _ k => XS.iconst X5.here hx rfl (hb hby at_127) k) ?_
      show own_G p e below s _ _ _ (T5.setTop (mkF m 128 #[.val (.int x0), .val (.int x1), .val (.int x2), .val (.int x3), .val (.int x4), .val (.int (1 : Int32)), .val (.int E0), .val (.int ((E0 + (1 : Int32)) + (x3 &&& (127 : Int32)))), .val (.int ((((E0 + (1 : Int32)) + (x3 &&& (127 : Int32))) + (1 : Int32)) + (x4 &&& (127 : Int32)))), .val (.ref b3), .unset] [(.int (0 : Int32))]))
      refine own_go (fun _ k => XS.istore X5.here hx rfl (hb hby at_128) rfl (l' := #[.val (.int x0), .val (.int x1), .val (.int x2), .val (.int x3), .val (.int x4), .val (.int (1 : Int32)), .val (.int E0), .val (.int ((E0 + (1 : Int32)) + (x3 &&& (127 : Int32)))), .val (.int ((((E0 + (1 : Int32)) + (x3 &&& (127 : Int32))) + (1 : Int32)) + (x4 &&& (127 : Int32)))), .val (.ref b3), .val (.int (0 : Int32))]) rfl k) ?_
      show own_G p e below s _ _ _ (T5.setTop (mkF m 130 #[.val (.int x0), .val (.int x1), .val (.int x2), .val (.int x3), .val (.int x4), .val (.int (1 : Int32)), .val (.int E0), .val (.int ((E0 + (1 : Int32)) + (x3 &&& (127 : Int32)))), .val (.int ((((E0 + (1 : Int32)) + (x3 &&& (127 : Int32))) + (1 : Int32)) + (x4 &&& (127 : Int32)))), .val (.ref b3), .val (.int (0 : Int32))] []))
      refine own_go (fun _ k => XS.aload X5.here hx rfl (hb hby at_130) rfl rfl k) ?_
      show own_G p e below s _ _ _ (T5.setTop (mkF m 132 #[.val (.int x0), .val (.int x1), .val (.int x2), .val (.int x3), .val (.int x4), .val (.int (1 : Int32)), .val (.int E0), .val (.int ((E0 + (1 : Int32)) + (x3 &&& (127 : Int32)))), .val (.int ((((E0 + (1 : Int32)) + (x3 &&& (127 : Int32))) + (1 : Int32)) + (x4 &&& (127 : Int32)))), .val (.ref b3), .val (.int (0 : Int32))] [(.ref b3)]))
      obtain ⟨_, _, ⟨T7, L7, k7, n7⟩, -, X7, ⟨Lc7, hQ7, l7, y7, z7⟩, st7⟩ := Jvm.LawKit.callS X5 hx (y := (⟨"dev/rulebound/RegexProgram", "accepts", "([I)Z"⟩ : MethodName)) hown (mvT hZ (hw _ (List.mem_of_getElem? (i := 1) rfl))) (mvT hZ (hw _ (List.mem_of_getElem? (i := 2) rfl))) (mvT hZ (hw _ (List.mem_of_getElem? (i := 3) rfl))) (mvT hZ (hw _ (List.mem_of_getElem? (i := 4) rfl))) (by decide) (backOf (W := 0) (rmA2 l Z a0 hw [] b3 k3 (1 : Int32) [(.int E0)] E0 h5 n0 Z5 V5_b3 (by decide) rfl hc98) hZ (hw _ (List.mem_of_getElem? (i := 4) rfl)) (hw _ (List.mem_of_getElem? (i := 3) rfl)) (by decide) (by decide)) (g := (mkF m 132 #[.val (.int x0), .val (.int x1), .val (.int x2), .val (.int x3), .val (.int x4), .val (.int (1 : Int32)), .val (.int E0), .val (.int ((E0 + (1 : Int32)) + (x3 &&& (127 : Int32)))), .val (.int ((((E0 + (1 : Int32)) + (x3 &&& (127 : Int32))) + (1 : Int32)) + (x4 &&& (127 : Int32)))), .val (.ref b3), .val (.int (0 : Int32))] [(.ref b3)])) rfl (by rw [hml]; rfl) (argsL := [(.ref b3)]) (rest := []) (lenOf pd_0 rfl) rfl (by show 2 * 0 + _ ≤ _; exact Nat.le_of_eq rfl) (hb hby at_132) (fun _ _ => ⟨rfl, e5, (by decide : 1 + 0 ≤ _), (by decide : 1 + 0 ≤ _)⟩)
      dsimp only [Pt.U, Pt.locs, Pt.cells, Pt.slots] at X7 l7 y7 z7 st7 hQ7
      subst l7 y7 z7
      obtain ⟨rfl, N7q, e7⟩ := hQ7
      have N7 := Fr.app N5 N7q
      refine own_go st7 ?_
      show own_G p e below s _ _ _ (T7.setTop (mkF m 135 #[.val (.int x0), .val (.int x1), .val (.int x2), .val (.int x3), .val (.int x4), .val (.int (1 : Int32)), .val (.int E0), .val (.int ((E0 + (1 : Int32)) + (x3 &&& (127 : Int32)))), .val (.int ((((E0 + (1 : Int32)) + (x3 &&& (127 : Int32))) + (1 : Int32)) + (x4 &&& (127 : Int32)))), .val (.ref b3), .val (.int (0 : Int32))] [(.int (0 : Int32))]))
      refine own_go (fun _ k => XS.iload X7.here hx rfl (hb hby at_135) rfl k) ?_
      show own_G p e below s _ _ _ (T7.setTop (mkF m 137 #[.val (.int x0), .val (.int x1), .val (.int x2), .val (.int x3), .val (.int x4), .val (.int (1 : Int32)), .val (.int E0), .val (.int ((E0 + (1 : Int32)) + (x3 &&& (127 : Int32)))), .val (.int ((((E0 + (1 : Int32)) + (x3 &&& (127 : Int32))) + (1 : Int32)) + (x4 &&& (127 : Int32)))), .val (.ref b3), .val (.int (0 : Int32))] [(.int (0 : Int32)), (.int (0 : Int32))]))
      refine own_ic_neN X7 hx (pc := 137) (hb hby at_137) (by decide) ?_
      show own_G p e below s _ _ _ (T7.setTop (mkF m 140 #[.val (.int x0), .val (.int x1), .val (.int x2), .val (.int x3), .val (.int x4), .val (.int (1 : Int32)), .val (.int E0), .val (.int ((E0 + (1 : Int32)) + (x3 &&& (127 : Int32)))), .val (.int ((((E0 + (1 : Int32)) + (x3 &&& (127 : Int32))) + (1 : Int32)) + (x4 &&& (127 : Int32)))), .val (.ref b3), .val (.int (0 : Int32))] []))
      refine own_go (fun _ k => XS.iconst X7.here hx rfl (hb hby at_140) k) ?_
      show own_G p e below s _ _ _ (T7.setTop (mkF m 141 #[.val (.int x0), .val (.int x1), .val (.int x2), .val (.int x3), .val (.int x4), .val (.int (1 : Int32)), .val (.int E0), .val (.int ((E0 + (1 : Int32)) + (x3 &&& (127 : Int32)))), .val (.int ((((E0 + (1 : Int32)) + (x3 &&& (127 : Int32))) + (1 : Int32)) + (x4 &&& (127 : Int32)))), .val (.ref b3), .val (.int (0 : Int32))] [(.int (1 : Int32))]))
      refine own_go (fun _ k => XS.goto X7.here hx rfl (pc0 := 141) (pc' := 145) rfl (hb hby at_141) (by decide) (by decide) k) ?_
      show own_G p e below s _ _ _ (T7.setTop (mkF m 145 #[.val (.int x0), .val (.int x1), .val (.int x2), .val (.int x3), .val (.int x4), .val (.int (1 : Int32)), .val (.int E0), .val (.int ((E0 + (1 : Int32)) + (x3 &&& (127 : Int32)))), .val (.int ((((E0 + (1 : Int32)) + (x3 &&& (127 : Int32))) + (1 : Int32)) + (x4 &&& (127 : Int32)))), .val (.ref b3), .val (.int (0 : Int32))] [(.int (1 : Int32))]))
      exact own_retN (t := .boolean) (ht := by simp) X7 hx Bd.returns (BodyLoose.notSynchronized Bd) (hb hby at_145) e7 ⟨rfl, N7⟩ (by decide) (by decide)
  · skip
    suffices J : ∀ (E0 : Int32), 0 ≤ E0.toInt ∧ E0.toInt < 200 → own_G p e below s (Q_rm0 Z x0 x1 x2 x3 x4 h0 n0) 16 128 (s₁.setTop (mkF m 23 #[.val (.int x0), .val (.int x1), .val (.int x2), .val (.int x3), .val (.int x4), .val (.int (2 : Int32)), .unset, .unset, .unset, .unset, .unset] [(.int E0)])) by
      show own_G p e below s _ _ _ (s₁.setTop (mkF m 3 #[.val (.int x0), .val (.int x1), .val (.int x2), .val (.int x3), .val (.int x4), .unset, .unset, .unset, .unset, .unset, .unset] [(.int (2 : Int32))]))
      refine own_go (fun _ k => XS.istore X0.here hx rfl (hb hby at_3) rfl (l' := #[.val (.int x0), .val (.int x1), .val (.int x2), .val (.int x3), .val (.int x4), .val (.int (2 : Int32)), .unset, .unset, .unset, .unset, .unset]) rfl k) ?_
      show own_G p e below s _ _ _ (s₁.setTop (mkF m 5 #[.val (.int x0), .val (.int x1), .val (.int x2), .val (.int x3), .val (.int x4), .val (.int (2 : Int32)), .unset, .unset, .unset, .unset, .unset] []))
      refine own_go (fun _ k => XS.iloadN X0.here hx rfl (hb hby at_5) rfl k) ?_
      show own_G p e below s _ _ _ (s₁.setTop (mkF m 6 #[.val (.int x0), .val (.int x1), .val (.int x2), .val (.int x3), .val (.int x4), .val (.int (2 : Int32)), .unset, .unset, .unset, .unset, .unset] [(.int x1)]))
      refine own_go (fun _ k => XS.iconst X0.here hx rfl (hb hby at_6) k) ?_
      show own_G p e below s _ _ _ (s₁.setTop (mkF m 7 #[.val (.int x0), .val (.int x1), .val (.int x2), .val (.int x3), .val (.int x4), .val (.int (2 : Int32)), .unset, .unset, .unset, .unset, .unset] [(.int (1 : Int32)), (.int x1)]))
      refine own_go (fun _ k => XS.iand X0.here hx rfl (hb hby at_7) rfl k) ?_
      show own_G p e below s _ _ _ (s₁.setTop (mkF m 8 #[.val (.int x0), .val (.int x1), .val (.int x2), .val (.int x3), .val (.int x4), .val (.int (2 : Int32)), .unset, .unset, .unset, .unset, .unset] [(.int (x1 &&& (1 : Int32)))]))
      refine own_if_eq X0 hx (pc := 8) (pc' := 15) (hb hby at_8) (by decide) (by decide) (fun hc8 => ?_) (fun hc8 => ?_)
      · show own_G p e below s _ _ _ (s₁.setTop (mkF m 15 #[.val (.int x0), .val (.int x1), .val (.int x2), .val (.int x3), .val (.int x4), .val (.int (2 : Int32)), .unset, .unset, .unset, .unset, .unset] []))
        refine own_go (fun _ k => XS.iloadN X0.here hx rfl (hb hby at_15) rfl k) ?_
        show own_G p e below s _ _ _ (s₁.setTop (mkF m 16 #[.val (.int x0), .val (.int x1), .val (.int x2), .val (.int x3), .val (.int x4), .val (.int (2 : Int32)), .unset, .unset, .unset, .unset, .unset] [(.int x2)]))
        refine own_go (fun _ k => X0.ldcInt hx hown (mvT hZ (hw _ (List.mem_of_getElem? (i := 5) rfl))) (g := (mkF m 16 #[.val (.int x0), .val (.int x1), .val (.int x2), .val (.int x3), .val (.int x4), .val (.int (2 : Int32)), .unset, .unset, .unset, .unset, .unset] [(.int x2)])) rfl (hb hby at_16) _ k) ?_
        show own_G p e below s _ _ _ (s₁.setTop (mkF m 18 #[.val (.int x0), .val (.int x1), .val (.int x2), .val (.int x3), .val (.int x4), .val (.int (2 : Int32)), .unset, .unset, .unset, .unset, .unset] [(.int (2147483647 : Int32)), (.int x2)]))
        refine own_go (fun _ k => XS.iand X0.here hx rfl (hb hby at_18) rfl k) ?_
        show own_G p e below s _ _ _ (s₁.setTop (mkF m 19 #[.val (.int x0), .val (.int x1), .val (.int x2), .val (.int x3), .val (.int x4), .val (.int (2 : Int32)), .unset, .unset, .unset, .unset, .unset] [(.int (x2 &&& (2147483647 : Int32)))]))
        refine own_go (fun _ k => XS.sipush X0.here hx rfl (hb hby at_19) k) ?_
        show own_G p e below s _ _ _ (s₁.setTop (mkF m 22 #[.val (.int x0), .val (.int x1), .val (.int x2), .val (.int x3), .val (.int x4), .val (.int (2 : Int32)), .unset, .unset, .unset, .unset, .unset] [(.int (200 : Int32)), (.int (x2 &&& (2147483647 : Int32)))]))
        refine own_go (fun _ k => iremM X0 hx rfl (hb hby at_22) rfl (by decide) k) ?_
        exact J _ (own_e0 x2)
      · show own_G p e below s _ _ _ (s₁.setTop (mkF m 11 #[.val (.int x0), .val (.int x1), .val (.int x2), .val (.int x3), .val (.int x4), .val (.int (2 : Int32)), .unset, .unset, .unset, .unset, .unset] []))
        refine own_go (fun _ k => XS.iconst X0.here hx rfl (hb hby at_11) k) ?_
        show own_G p e below s _ _ _ (s₁.setTop (mkF m 12 #[.val (.int x0), .val (.int x1), .val (.int x2), .val (.int x3), .val (.int x4), .val (.int (2 : Int32)), .unset, .unset, .unset, .unset, .unset] [(.int (0 : Int32))]))
        refine own_go (fun _ k => XS.goto X0.here hx rfl (pc0 := 12) (pc' := 23) rfl (hb hby at_12) (by decide) (by decide) k) ?_
        exact J _ (by decide)
    intro E0 hE0
    have hq1 := own_e1 E0 x3 200 (by decide) hE0
    have hq2 := own_e1 ((E0 + (1 : Int32)) + (x3 &&& (127 : Int32))) x4 328 (by decide) ⟨by omega, by omega⟩
    have hE1 := own_pos hq1.1
    have hE2 := own_pos hq2.1
    show own_G p e below s _ _ _ (s₁.setTop (mkF m 23 #[.val (.int x0), .val (.int x1), .val (.int x2), .val (.int x3), .val (.int x4), .val (.int (2 : Int32)), .unset, .unset, .unset, .unset, .unset] [(.int E0)]))
    refine own_go (fun _ k => XS.istore X0.here hx rfl (hb hby at_23) rfl (l' := #[.val (.int x0), .val (.int x1), .val (.int x2), .val (.int x3), .val (.int x4), .val (.int (2 : Int32)), .val (.int E0), .unset, .unset, .unset, .unset]) rfl k) ?_
    show own_G p e below s _ _ _ (s₁.setTop (mkF m 25 #[.val (.int x0), .val (.int x1), .val (.int x2), .val (.int x3), .val (.int x4), .val (.int (2 : Int32)), .val (.int E0), .unset, .unset, .unset, .unset] []))
    refine own_go (fun _ k => XS.iload X0.here hx rfl (hb hby at_25) rfl k) ?_
    show own_G p e below s _ _ _ (s₁.setTop (mkF m 27 #[.val (.int x0), .val (.int x1), .val (.int x2), .val (.int x3), .val (.int x4), .val (.int (2 : Int32)), .val (.int E0), .unset, .unset, .unset, .unset] [(.int E0)]))
    refine own_go (fun _ k => XS.iconst X0.here hx rfl (hb hby at_27) k) ?_
    show own_G p e below s _ _ _ (s₁.setTop (mkF m 28 #[.val (.int x0), .val (.int x1), .val (.int x2), .val (.int x3), .val (.int x4), .val (.int (2 : Int32)), .val (.int E0), .unset, .unset, .unset, .unset] [(.int (1 : Int32)), (.int E0)]))
    refine own_go (fun _ k => XS.iadd X0.here hx rfl (hb hby at_28) rfl k) ?_
    show own_G p e below s _ _ _ (s₁.setTop (mkF m 29 #[.val (.int x0), .val (.int x1), .val (.int x2), .val (.int x3), .val (.int x4), .val (.int (2 : Int32)), .val (.int E0), .unset, .unset, .unset, .unset] [(.int (E0 + (1 : Int32)))]))
    refine own_go (fun _ k => XS.iloadN X0.here hx rfl (hb hby at_29) rfl k) ?_
    show own_G p e below s _ _ _ (s₁.setTop (mkF m 30 #[.val (.int x0), .val (.int x1), .val (.int x2), .val (.int x3), .val (.int x4), .val (.int (2 : Int32)), .val (.int E0), .unset, .unset, .unset, .unset] [(.int x3), (.int (E0 + (1 : Int32)))]))
    refine own_go (fun _ k => XS.bipush X0.here hx rfl (hb hby at_30) k) ?_
    show own_G p e below s _ _ _ (s₁.setTop (mkF m 32 #[.val (.int x0), .val (.int x1), .val (.int x2), .val (.int x3), .val (.int x4), .val (.int (2 : Int32)), .val (.int E0), .unset, .unset, .unset, .unset] [(.int (127 : Int32)), (.int x3), (.int (E0 + (1 : Int32)))]))
    refine own_go (fun _ k => XS.iand X0.here hx rfl (hb hby at_32) rfl k) ?_
    show own_G p e below s _ _ _ (s₁.setTop (mkF m 33 #[.val (.int x0), .val (.int x1), .val (.int x2), .val (.int x3), .val (.int x4), .val (.int (2 : Int32)), .val (.int E0), .unset, .unset, .unset, .unset] [(.int (x3 &&& (127 : Int32))), (.int (E0 + (1 : Int32)))]))
    refine own_go (fun _ k => XS.iadd X0.here hx rfl (hb hby at_33) rfl k) ?_
    show own_G p e below s _ _ _ (s₁.setTop (mkF m 34 #[.val (.int x0), .val (.int x1), .val (.int x2), .val (.int x3), .val (.int x4), .val (.int (2 : Int32)), .val (.int E0), .unset, .unset, .unset, .unset] [(.int ((E0 + (1 : Int32)) + (x3 &&& (127 : Int32))))]))
    refine own_go (fun _ k => XS.istore X0.here hx rfl (hb hby at_34) rfl (l' := #[.val (.int x0), .val (.int x1), .val (.int x2), .val (.int x3), .val (.int x4), .val (.int (2 : Int32)), .val (.int E0), .val (.int ((E0 + (1 : Int32)) + (x3 &&& (127 : Int32)))), .unset, .unset, .unset]) rfl k) ?_
    show own_G p e below s _ _ _ (s₁.setTop (mkF m 36 #[.val (.int x0), .val (.int x1), .val (.int x2), .val (.int x3), .val (.int x4), .val (.int (2 : Int32)), .val (.int E0), .val (.int ((E0 + (1 : Int32)) + (x3 &&& (127 : Int32)))), .unset, .unset, .unset] []))
    refine own_go (fun _ k => XS.iload X0.here hx rfl (hb hby at_36) rfl k) ?_
    show own_G p e below s _ _ _ (s₁.setTop (mkF m 38 #[.val (.int x0), .val (.int x1), .val (.int x2), .val (.int x3), .val (.int x4), .val (.int (2 : Int32)), .val (.int E0), .val (.int ((E0 + (1 : Int32)) + (x3 &&& (127 : Int32)))), .unset, .unset, .unset] [(.int ((E0 + (1 : Int32)) + (x3 &&& (127 : Int32))))]))
    refine own_go (fun _ k => XS.iconst X0.here hx rfl (hb hby at_38) k) ?_
    show own_G p e below s _ _ _ (s₁.setTop (mkF m 39 #[.val (.int x0), .val (.int x1), .val (.int x2), .val (.int x3), .val (.int x4), .val (.int (2 : Int32)), .val (.int E0), .val (.int ((E0 + (1 : Int32)) + (x3 &&& (127 : Int32)))), .unset, .unset, .unset] [(.int (1 : Int32)), (.int ((E0 + (1 : Int32)) + (x3 &&& (127 : Int32))))]))
    refine own_go (fun _ k => XS.iadd X0.here hx rfl (hb hby at_39) rfl k) ?_
    show own_G p e below s _ _ _ (s₁.setTop (mkF m 40 #[.val (.int x0), .val (.int x1), .val (.int x2), .val (.int x3), .val (.int x4), .val (.int (2 : Int32)), .val (.int E0), .val (.int ((E0 + (1 : Int32)) + (x3 &&& (127 : Int32)))), .unset, .unset, .unset] [(.int (((E0 + (1 : Int32)) + (x3 &&& (127 : Int32))) + (1 : Int32)))]))
    refine own_go (fun _ k => XS.iload X0.here hx rfl (hb hby at_40) rfl k) ?_
    show own_G p e below s _ _ _ (s₁.setTop (mkF m 42 #[.val (.int x0), .val (.int x1), .val (.int x2), .val (.int x3), .val (.int x4), .val (.int (2 : Int32)), .val (.int E0), .val (.int ((E0 + (1 : Int32)) + (x3 &&& (127 : Int32)))), .unset, .unset, .unset] [(.int x4), (.int (((E0 + (1 : Int32)) + (x3 &&& (127 : Int32))) + (1 : Int32)))]))
    refine own_go (fun _ k => XS.bipush X0.here hx rfl (hb hby at_42) k) ?_
    show own_G p e below s _ _ _ (s₁.setTop (mkF m 44 #[.val (.int x0), .val (.int x1), .val (.int x2), .val (.int x3), .val (.int x4), .val (.int (2 : Int32)), .val (.int E0), .val (.int ((E0 + (1 : Int32)) + (x3 &&& (127 : Int32)))), .unset, .unset, .unset] [(.int (127 : Int32)), (.int x4), (.int (((E0 + (1 : Int32)) + (x3 &&& (127 : Int32))) + (1 : Int32)))]))
    refine own_go (fun _ k => XS.iand X0.here hx rfl (hb hby at_44) rfl k) ?_
    show own_G p e below s _ _ _ (s₁.setTop (mkF m 45 #[.val (.int x0), .val (.int x1), .val (.int x2), .val (.int x3), .val (.int x4), .val (.int (2 : Int32)), .val (.int E0), .val (.int ((E0 + (1 : Int32)) + (x3 &&& (127 : Int32)))), .unset, .unset, .unset] [(.int (x4 &&& (127 : Int32))), (.int (((E0 + (1 : Int32)) + (x3 &&& (127 : Int32))) + (1 : Int32)))]))
    refine own_go (fun _ k => XS.iadd X0.here hx rfl (hb hby at_45) rfl k) ?_
    show own_G p e below s _ _ _ (s₁.setTop (mkF m 46 #[.val (.int x0), .val (.int x1), .val (.int x2), .val (.int x3), .val (.int x4), .val (.int (2 : Int32)), .val (.int E0), .val (.int ((E0 + (1 : Int32)) + (x3 &&& (127 : Int32)))), .unset, .unset, .unset] [(.int ((((E0 + (1 : Int32)) + (x3 &&& (127 : Int32))) + (1 : Int32)) + (x4 &&& (127 : Int32))))]))
    refine own_go (fun _ k => XS.istore X0.here hx rfl (hb hby at_46) rfl (l' := #[.val (.int x0), .val (.int x1), .val (.int x2), .val (.int x3), .val (.int x4), .val (.int (2 : Int32)), .val (.int E0), .val (.int ((E0 + (1 : Int32)) + (x3 &&& (127 : Int32)))), .val (.int ((((E0 + (1 : Int32)) + (x3 &&& (127 : Int32))) + (1 : Int32)) + (x4 &&& (127 : Int32)))), .unset, .unset]) rfl k) ?_
    show own_G p e below s _ _ _ (s₁.setTop (mkF m 48 #[.val (.int x0), .val (.int x1), .val (.int x2), .val (.int x3), .val (.int x4), .val (.int (2 : Int32)), .val (.int E0), .val (.int ((E0 + (1 : Int32)) + (x3 &&& (127 : Int32)))), .val (.int ((((E0 + (1 : Int32)) + (x3 &&& (127 : Int32))) + (1 : Int32)) + (x4 &&& (127 : Int32)))), .unset, .unset] []))
    refine own_go (fun _ k => XS.iload X0.here hx rfl (hb hby at_48) rfl k) ?_
    show own_G p e below s _ _ _ (s₁.setTop (mkF m 50 #[.val (.int x0), .val (.int x1), .val (.int x2), .val (.int x3), .val (.int x4), .val (.int (2 : Int32)), .val (.int E0), .val (.int ((E0 + (1 : Int32)) + (x3 &&& (127 : Int32)))), .val (.int ((((E0 + (1 : Int32)) + (x3 &&& (127 : Int32))) + (1 : Int32)) + (x4 &&& (127 : Int32)))), .unset, .unset] [(.int (2 : Int32))]))
    obtain ⟨T8, h8, k8, X8, e8, E8, A8, st8⟩ := newP X0 hx hZ (hw _ (List.mem_of_getElem? (i := 0) rfl)) e0 (g := (mkF m 50 #[.val (.int x0), .val (.int x1), .val (.int x2), .val (.int x3), .val (.int x4), .val (.int (2 : Int32)), .val (.int E0), .val (.int ((E0 + (1 : Int32)) + (x3 &&& (127 : Int32)))), .val (.int ((((E0 + (1 : Int32)) + (x3 &&& (127 : Int32))) + (1 : Int32)) + (x4 &&& (127 : Int32)))), .unset, .unset] [(.int (2 : Int32))])) rfl (hb hby at_50) rfl (by decide) (cap := 2) (by decide) (by decide) (by decide) (by decide)
    obtain ⟨b8, g8⟩ : ∃ z, z = h0.size := ⟨_, rfl⟩
    rw [← g8] at A8 st8
    refine own_go st8 ?_
    have g_b8 : n0 ≤ b8 := Nat.le_trans Z0 (Nat.le_of_eq g8.symm)
    have Z8 : n0 ≤ h8.size := Nat.le_trans Z0 E8.1
    have V8_b8 : Arv Z h8 b8 k8 .int (2 : Int32) [(.int (0 : Int32)), (.int (0 : Int32))] (.int (0 : Int32)) := (Arv.new A8 (by decide)).pad (pad_rep [] (.int (0 : Int32)) 2)
    show own_G p e below s _ _ _ (T8.setTop (mkF m 52 #[.val (.int x0), .val (.int x1), .val (.int x2), .val (.int x3), .val (.int x4), .val (.int (2 : Int32)), .val (.int E0), .val (.int ((E0 + (1 : Int32)) + (x3 &&& (127 : Int32)))), .val (.int ((((E0 + (1 : Int32)) + (x3 &&& (127 : Int32))) + (1 : Int32)) + (x4 &&& (127 : Int32)))), .unset, .unset] [(.ref b8)]))
    refine own_go (fun _ k => XS.astore X8.here hx rfl (hb hby at_52) rfl rfl (l' := #[.val (.int x0), .val (.int x1), .val (.int x2), .val (.int x3), .val (.int x4), .val (.int (2 : Int32)), .val (.int E0), .val (.int ((E0 + (1 : Int32)) + (x3 &&& (127 : Int32)))), .val (.int ((((E0 + (1 : Int32)) + (x3 &&& (127 : Int32))) + (1 : Int32)) + (x4 &&& (127 : Int32)))), .val (.ref b8), .unset]) rfl k) ?_
    show own_G p e below s _ _ _ (T8.setTop (mkF m 54 #[.val (.int x0), .val (.int x1), .val (.int x2), .val (.int x3), .val (.int x4), .val (.int (2 : Int32)), .val (.int E0), .val (.int ((E0 + (1 : Int32)) + (x3 &&& (127 : Int32)))), .val (.int ((((E0 + (1 : Int32)) + (x3 &&& (127 : Int32))) + (1 : Int32)) + (x4 &&& (127 : Int32)))), .val (.ref b8), .unset] []))
    refine own_go (fun _ k => XS.iload X8.here hx rfl (hb hby at_54) rfl k) ?_
    show own_G p e below s _ _ _ (T8.setTop (mkF m 56 #[.val (.int x0), .val (.int x1), .val (.int x2), .val (.int x3), .val (.int x4), .val (.int (2 : Int32)), .val (.int E0), .val (.int ((E0 + (1 : Int32)) + (x3 &&& (127 : Int32)))), .val (.int ((((E0 + (1 : Int32)) + (x3 &&& (127 : Int32))) + (1 : Int32)) + (x4 &&& (127 : Int32)))), .val (.ref b8), .unset] [(.int (2 : Int32))]))
    refine own_go (fun _ k => XS.iconst X8.here hx rfl (hb hby at_56) k) ?_
    show own_G p e below s _ _ _ (T8.setTop (mkF m 57 #[.val (.int x0), .val (.int x1), .val (.int x2), .val (.int x3), .val (.int x4), .val (.int (2 : Int32)), .val (.int E0), .val (.int ((E0 + (1 : Int32)) + (x3 &&& (127 : Int32)))), .val (.int ((((E0 + (1 : Int32)) + (x3 &&& (127 : Int32))) + (1 : Int32)) + (x4 &&& (127 : Int32)))), .val (.ref b8), .unset] [(.int (1 : Int32)), (.int (2 : Int32))]))
    refine own_ic_ltN X8 hx (pc := 57) (hb hby at_57) (by decide) ?_
    show own_G p e below s _ _ _ (T8.setTop (mkF m 60 #[.val (.int x0), .val (.int x1), .val (.int x2), .val (.int x3), .val (.int x4), .val (.int (2 : Int32)), .val (.int E0), .val (.int ((E0 + (1 : Int32)) + (x3 &&& (127 : Int32)))), .val (.int ((((E0 + (1 : Int32)) + (x3 &&& (127 : Int32))) + (1 : Int32)) + (x4 &&& (127 : Int32)))), .val (.ref b8), .unset] []))
    refine own_go (fun _ k => XS.aload X8.here hx rfl (hb hby at_60) rfl rfl k) ?_
    show own_G p e below s _ _ _ (T8.setTop (mkF m 62 #[.val (.int x0), .val (.int x1), .val (.int x2), .val (.int x3), .val (.int x4), .val (.int (2 : Int32)), .val (.int E0), .val (.int ((E0 + (1 : Int32)) + (x3 &&& (127 : Int32)))), .val (.int ((((E0 + (1 : Int32)) + (x3 &&& (127 : Int32))) + (1 : Int32)) + (x4 &&& (127 : Int32)))), .val (.ref b8), .unset] [(.ref b8)]))
    refine own_go (fun _ k => XS.iconst X8.here hx rfl (hb hby at_62) k) ?_
    show own_G p e below s _ _ _ (T8.setTop (mkF m 63 #[.val (.int x0), .val (.int x1), .val (.int x2), .val (.int x3), .val (.int x4), .val (.int (2 : Int32)), .val (.int E0), .val (.int ((E0 + (1 : Int32)) + (x3 &&& (127 : Int32)))), .val (.int ((((E0 + (1 : Int32)) + (x3 &&& (127 : Int32))) + (1 : Int32)) + (x4 &&& (127 : Int32)))), .val (.ref b8), .unset] [(.int (0 : Int32)), (.ref b8)]))
    refine own_go (fun _ k => XS.iload X8.here hx rfl (hb hby at_63) rfl k) ?_
    show own_G p e below s _ _ _ (T8.setTop (mkF m 65 #[.val (.int x0), .val (.int x1), .val (.int x2), .val (.int x3), .val (.int x4), .val (.int (2 : Int32)), .val (.int E0), .val (.int ((E0 + (1 : Int32)) + (x3 &&& (127 : Int32)))), .val (.int ((((E0 + (1 : Int32)) + (x3 &&& (127 : Int32))) + (1 : Int32)) + (x4 &&& (127 : Int32)))), .val (.ref b8), .unset] [(.int E0), (.int (0 : Int32)), (.ref b8)]))
    have Vc9 := V8_b8
    obtain ⟨cl9, Ar9, q9, S9, M9, H9, G9⟩ := Vc9
    have hin9 := inb_of (j := (0 : Int32)) S9 ⟨(by decide), (by decide)⟩
    obtain ⟨T10, h10, X10, e10, W10, st10⟩ := stI X8 hx hZ e8 Ar9 (j := (0 : Int32)) hin9 (g := (mkF m 65 #[.val (.int x0), .val (.int x1), .val (.int x2), .val (.int x3), .val (.int x4), .val (.int (2 : Int32)), .val (.int E0), .val (.int ((E0 + (1 : Int32)) + (x3 &&& (127 : Int32)))), .val (.int ((((E0 + (1 : Int32)) + (x3 &&& (127 : Int32))) + (1 : Int32)) + (x4 &&& (127 : Int32)))), .val (.ref b8), .unset] [(.int E0), (.int (0 : Int32)), (.ref b8)])) rfl rfl (hb hby at_65)
    refine own_go st10 ?_
    have V10_b8 : Arv Z h10 b8 k8 .int (2 : Int32) [(.int E0), (.int (0 : Int32))] (.int (0 : Int32)) := Arv.set Ar9 q9 S9 M9 H9 G9 rfl W10 0 rfl (Nat.le_of_ble_eq_true rfl)
    have Z10 : n0 ≤ h10.size := by rw [W10.size]; exact Z8
    have N10 := Fr.snoc X10 N0 g_b8
    show own_G p e below s _ _ _ (T10.setTop (mkF m 66 #[.val (.int x0), .val (.int x1), .val (.int x2), .val (.int x3), .val (.int x4), .val (.int (2 : Int32)), .val (.int E0), .val (.int ((E0 + (1 : Int32)) + (x3 &&& (127 : Int32)))), .val (.int ((((E0 + (1 : Int32)) + (x3 &&& (127 : Int32))) + (1 : Int32)) + (x4 &&& (127 : Int32)))), .val (.ref b8), .unset] []))
    refine own_go (fun _ k => XS.iload X10.here hx rfl (hb hby at_66) rfl k) ?_
    show own_G p e below s _ _ _ (T10.setTop (mkF m 68 #[.val (.int x0), .val (.int x1), .val (.int x2), .val (.int x3), .val (.int x4), .val (.int (2 : Int32)), .val (.int E0), .val (.int ((E0 + (1 : Int32)) + (x3 &&& (127 : Int32)))), .val (.int ((((E0 + (1 : Int32)) + (x3 &&& (127 : Int32))) + (1 : Int32)) + (x4 &&& (127 : Int32)))), .val (.ref b8), .unset] [(.int (2 : Int32))]))
    refine own_go (fun _ k => XS.iconst X10.here hx rfl (hb hby at_68) k) ?_
    show own_G p e below s _ _ _ (T10.setTop (mkF m 69 #[.val (.int x0), .val (.int x1), .val (.int x2), .val (.int x3), .val (.int x4), .val (.int (2 : Int32)), .val (.int E0), .val (.int ((E0 + (1 : Int32)) + (x3 &&& (127 : Int32)))), .val (.int ((((E0 + (1 : Int32)) + (x3 &&& (127 : Int32))) + (1 : Int32)) + (x4 &&& (127 : Int32)))), .val (.ref b8), .unset] [(.int (2 : Int32)), (.int (2 : Int32))]))
    refine own_ic_ltN X10 hx (pc := 69) (hb hby at_69) (by decide) ?_
    show own_G p e below s _ _ _ (T10.setTop (mkF m 72 #[.val (.int x0), .val (.int x1), .val (.int x2), .val (.int x3), .val (.int x4), .val (.int (2 : Int32)), .val (.int E0), .val (.int ((E0 + (1 : Int32)) + (x3 &&& (127 : Int32)))), .val (.int ((((E0 + (1 : Int32)) + (x3 &&& (127 : Int32))) + (1 : Int32)) + (x4 &&& (127 : Int32)))), .val (.ref b8), .unset] []))
    refine own_go (fun _ k => XS.aload X10.here hx rfl (hb hby at_72) rfl rfl k) ?_
    show own_G p e below s _ _ _ (T10.setTop (mkF m 74 #[.val (.int x0), .val (.int x1), .val (.int x2), .val (.int x3), .val (.int x4), .val (.int (2 : Int32)), .val (.int E0), .val (.int ((E0 + (1 : Int32)) + (x3 &&& (127 : Int32)))), .val (.int ((((E0 + (1 : Int32)) + (x3 &&& (127 : Int32))) + (1 : Int32)) + (x4 &&& (127 : Int32)))), .val (.ref b8), .unset] [(.ref b8)]))
    refine own_go (fun _ k => XS.iconst X10.here hx rfl (hb hby at_74) k) ?_
    show own_G p e below s _ _ _ (T10.setTop (mkF m 75 #[.val (.int x0), .val (.int x1), .val (.int x2), .val (.int x3), .val (.int x4), .val (.int (2 : Int32)), .val (.int E0), .val (.int ((E0 + (1 : Int32)) + (x3 &&& (127 : Int32)))), .val (.int ((((E0 + (1 : Int32)) + (x3 &&& (127 : Int32))) + (1 : Int32)) + (x4 &&& (127 : Int32)))), .val (.ref b8), .unset] [(.int (1 : Int32)), (.ref b8)]))
    refine own_go (fun _ k => XS.iload X10.here hx rfl (hb hby at_75) rfl k) ?_
    show own_G p e below s _ _ _ (T10.setTop (mkF m 77 #[.val (.int x0), .val (.int x1), .val (.int x2), .val (.int x3), .val (.int x4), .val (.int (2 : Int32)), .val (.int E0), .val (.int ((E0 + (1 : Int32)) + (x3 &&& (127 : Int32)))), .val (.int ((((E0 + (1 : Int32)) + (x3 &&& (127 : Int32))) + (1 : Int32)) + (x4 &&& (127 : Int32)))), .val (.ref b8), .unset] [(.int ((E0 + (1 : Int32)) + (x3 &&& (127 : Int32)))), (.int (1 : Int32)), (.ref b8)]))
    have Vc11 := V10_b8
    obtain ⟨cl11, Ar11, q11, S11, M11, H11, G11⟩ := Vc11
    have hin11 := inb_of (j := (1 : Int32)) S11 ⟨(by decide), (by decide)⟩
    obtain ⟨T12, h12, X12, e12, W12, st12⟩ := stI X10 hx hZ e10 Ar11 (j := (1 : Int32)) hin11 (g := (mkF m 77 #[.val (.int x0), .val (.int x1), .val (.int x2), .val (.int x3), .val (.int x4), .val (.int (2 : Int32)), .val (.int E0), .val (.int ((E0 + (1 : Int32)) + (x3 &&& (127 : Int32)))), .val (.int ((((E0 + (1 : Int32)) + (x3 &&& (127 : Int32))) + (1 : Int32)) + (x4 &&& (127 : Int32)))), .val (.ref b8), .unset] [(.int ((E0 + (1 : Int32)) + (x3 &&& (127 : Int32)))), (.int (1 : Int32)), (.ref b8)])) rfl rfl (hb hby at_77)
    refine own_go st12 ?_
    have V12_b8 : Arv Z h12 b8 k8 .int (2 : Int32) [(.int E0), (.int ((E0 + (1 : Int32)) + (x3 &&& (127 : Int32))))] (.int (0 : Int32)) := Arv.set Ar11 q11 S11 M11 H11 G11 rfl W12 1 rfl (Nat.le_of_ble_eq_true rfl)
    have Z12 : n0 ≤ h12.size := by rw [W12.size]; exact Z10
    have N12 := Fr.snoc X12 N10 g_b8
    show own_G p e below s _ _ _ (T12.setTop (mkF m 78 #[.val (.int x0), .val (.int x1), .val (.int x2), .val (.int x3), .val (.int x4), .val (.int (2 : Int32)), .val (.int E0), .val (.int ((E0 + (1 : Int32)) + (x3 &&& (127 : Int32)))), .val (.int ((((E0 + (1 : Int32)) + (x3 &&& (127 : Int32))) + (1 : Int32)) + (x4 &&& (127 : Int32)))), .val (.ref b8), .unset] []))
    refine own_go (fun _ k => XS.iload X12.here hx rfl (hb hby at_78) rfl k) ?_
    show own_G p e below s _ _ _ (T12.setTop (mkF m 80 #[.val (.int x0), .val (.int x1), .val (.int x2), .val (.int x3), .val (.int x4), .val (.int (2 : Int32)), .val (.int E0), .val (.int ((E0 + (1 : Int32)) + (x3 &&& (127 : Int32)))), .val (.int ((((E0 + (1 : Int32)) + (x3 &&& (127 : Int32))) + (1 : Int32)) + (x4 &&& (127 : Int32)))), .val (.ref b8), .unset] [(.int (2 : Int32))]))
    refine own_go (fun _ k => XS.iconst X12.here hx rfl (hb hby at_80) k) ?_
    show own_G p e below s _ _ _ (T12.setTop (mkF m 81 #[.val (.int x0), .val (.int x1), .val (.int x2), .val (.int x3), .val (.int x4), .val (.int (2 : Int32)), .val (.int E0), .val (.int ((E0 + (1 : Int32)) + (x3 &&& (127 : Int32)))), .val (.int ((((E0 + (1 : Int32)) + (x3 &&& (127 : Int32))) + (1 : Int32)) + (x4 &&& (127 : Int32)))), .val (.ref b8), .unset] [(.int (3 : Int32)), (.int (2 : Int32))]))
    refine own_ic_ltY X12 hx (pc := 81) (pc' := 90) (hb hby at_81) (by decide) (by decide) (by decide) ?_
    show own_G p e below s _ _ _ (T12.setTop (mkF m 90 #[.val (.int x0), .val (.int x1), .val (.int x2), .val (.int x3), .val (.int x4), .val (.int (2 : Int32)), .val (.int E0), .val (.int ((E0 + (1 : Int32)) + (x3 &&& (127 : Int32)))), .val (.int ((((E0 + (1 : Int32)) + (x3 &&& (127 : Int32))) + (1 : Int32)) + (x4 &&& (127 : Int32)))), .val (.ref b8), .unset] []))
    refine own_go (fun _ k => XS.iload X12.here hx rfl (hb hby at_90) rfl k) ?_
    show own_G p e below s _ _ _ (T12.setTop (mkF m 92 #[.val (.int x0), .val (.int x1), .val (.int x2), .val (.int x3), .val (.int x4), .val (.int (2 : Int32)), .val (.int E0), .val (.int ((E0 + (1 : Int32)) + (x3 &&& (127 : Int32)))), .val (.int ((((E0 + (1 : Int32)) + (x3 &&& (127 : Int32))) + (1 : Int32)) + (x4 &&& (127 : Int32)))), .val (.ref b8), .unset] [(.int (2 : Int32))]))
    refine own_go (fun _ k => XS.iconst X12.here hx rfl (hb hby at_92) k) ?_
    show own_G p e below s _ _ _ (T12.setTop (mkF m 93 #[.val (.int x0), .val (.int x1), .val (.int x2), .val (.int x3), .val (.int x4), .val (.int (2 : Int32)), .val (.int E0), .val (.int ((E0 + (1 : Int32)) + (x3 &&& (127 : Int32)))), .val (.int ((((E0 + (1 : Int32)) + (x3 &&& (127 : Int32))) + (1 : Int32)) + (x4 &&& (127 : Int32)))), .val (.ref b8), .unset] [(.int (1 : Int32)), (.int (2 : Int32))]))
    refine own_ic_ltN X12 hx (pc := 93) (hb hby at_93) (by decide) ?_
    show own_G p e below s _ _ _ (T12.setTop (mkF m 96 #[.val (.int x0), .val (.int x1), .val (.int x2), .val (.int x3), .val (.int x4), .val (.int (2 : Int32)), .val (.int E0), .val (.int ((E0 + (1 : Int32)) + (x3 &&& (127 : Int32)))), .val (.int ((((E0 + (1 : Int32)) + (x3 &&& (127 : Int32))) + (1 : Int32)) + (x4 &&& (127 : Int32)))), .val (.ref b8), .unset] []))
    refine own_go (fun _ k => XS.iload X12.here hx rfl (hb hby at_96) rfl k) ?_
    show own_G p e below s _ _ _ (T12.setTop (mkF m 98 #[.val (.int x0), .val (.int x1), .val (.int x2), .val (.int x3), .val (.int x4), .val (.int (2 : Int32)), .val (.int E0), .val (.int ((E0 + (1 : Int32)) + (x3 &&& (127 : Int32)))), .val (.int ((((E0 + (1 : Int32)) + (x3 &&& (127 : Int32))) + (1 : Int32)) + (x4 &&& (127 : Int32)))), .val (.ref b8), .unset] [(.int E0)]))
    refine own_if_eq X12 hx (pc := 98) (pc' := 123) (hb hby at_98) (by decide) (by decide) (fun hc98 => ?_) (fun hc98 => ?_)
    · show own_G p e below s _ _ _ (T12.setTop (mkF m 123 #[.val (.int x0), .val (.int x1), .val (.int x2), .val (.int x3), .val (.int x4), .val (.int (2 : Int32)), .val (.int E0), .val (.int ((E0 + (1 : Int32)) + (x3 &&& (127 : Int32)))), .val (.int ((((E0 + (1 : Int32)) + (x3 &&& (127 : Int32))) + (1 : Int32)) + (x4 &&& (127 : Int32)))), .val (.ref b8), .unset] []))
      refine own_go (fun _ k => XS.iconst X12.here hx rfl (hb hby at_123) k) ?_
      show own_G p e below s _ _ _ (T12.setTop (mkF m 124 #[.val (.int x0), .val (.int x1), .val (.int x2), .val (.int x3), .val (.int x4), .val (.int (2 : Int32)), .val (.int E0), .val (.int ((E0 + (1 : Int32)) + (x3 &&& (127 : Int32)))), .val (.int ((((E0 + (1 : Int32)) + (x3 &&& (127 : Int32))) + (1 : Int32)) + (x4 &&& (127 : Int32)))), .val (.ref b8), .unset] [(.int (1 : Int32))]))
      refine own_go (fun _ k => XS.goto X12.here hx rfl (pc0 := 124) (pc' := 128) rfl (hb hby at_124) (by decide) (by decide) k) ?_
      show own_G p e below s _ _ _ (T12.setTop (mkF m 128 #[.val (.int x0), .val (.int x1), .val (.int x2), .val (.int x3), .val (.int x4), .val (.int (2 : Int32)), .val (.int E0), .val (.int ((E0 + (1 : Int32)) + (x3 &&& (127 : Int32)))), .val (.int ((((E0 + (1 : Int32)) + (x3 &&& (127 : Int32))) + (1 : Int32)) + (x4 &&& (127 : Int32)))), .val (.ref b8), .unset] [(.int (1 : Int32))]))
      refine own_go (fun _ k => XS.istore X12.here hx rfl (hb hby at_128) rfl (l' := #[.val (.int x0), .val (.int x1), .val (.int x2), .val (.int x3), .val (.int x4), .val (.int (2 : Int32)), .val (.int E0), .val (.int ((E0 + (1 : Int32)) + (x3 &&& (127 : Int32)))), .val (.int ((((E0 + (1 : Int32)) + (x3 &&& (127 : Int32))) + (1 : Int32)) + (x4 &&& (127 : Int32)))), .val (.ref b8), .val (.int (1 : Int32))]) rfl k) ?_
      show own_G p e below s _ _ _ (T12.setTop (mkF m 130 #[.val (.int x0), .val (.int x1), .val (.int x2), .val (.int x3), .val (.int x4), .val (.int (2 : Int32)), .val (.int E0), .val (.int ((E0 + (1 : Int32)) + (x3 &&& (127 : Int32)))), .val (.int ((((E0 + (1 : Int32)) + (x3 &&& (127 : Int32))) + (1 : Int32)) + (x4 &&& (127 : Int32)))), .val (.ref b8), .val (.int (1 : Int32))] []))
      refine own_go (fun _ k => XS.aload X12.here hx rfl (hb hby at_130) rfl rfl k) ?_
      show own_G p e below s _ _ _ (T12.setTop (mkF m 132 #[.val (.int x0), .val (.int x1), .val (.int x2), .val (.int x3), .val (.int x4), .val (.int (2 : Int32)), .val (.int E0), .val (.int ((E0 + (1 : Int32)) + (x3 &&& (127 : Int32)))), .val (.int ((((E0 + (1 : Int32)) + (x3 &&& (127 : Int32))) + (1 : Int32)) + (x4 &&& (127 : Int32)))), .val (.ref b8), .val (.int (1 : Int32))] [(.ref b8)]))
      obtain ⟨_, _, ⟨T13, L13, k13, n13⟩, -, X13, ⟨Lc13, hQ13, l13, y13, z13⟩, st13⟩ := Jvm.LawKit.callS X12 hx (y := (⟨"dev/rulebound/RegexProgram", "accepts", "([I)Z"⟩ : MethodName)) hown (mvT hZ (hw _ (List.mem_of_getElem? (i := 1) rfl))) (mvT hZ (hw _ (List.mem_of_getElem? (i := 2) rfl))) (mvT hZ (hw _ (List.mem_of_getElem? (i := 3) rfl))) (mvT hZ (hw _ (List.mem_of_getElem? (i := 4) rfl))) (by decide) (backOf (W := 0) (rmA1 l Z a0 hw [] b8 k8 (2 : Int32) [(.int E0), (.int ((E0 + (1 : Int32)) + (x3 &&& (127 : Int32))))] E0 h12 n0 Z12 V12_b8 (by decide) rfl hc98) hZ (hw _ (List.mem_of_getElem? (i := 4) rfl)) (hw _ (List.mem_of_getElem? (i := 3) rfl)) (by decide) (by decide)) (g := (mkF m 132 #[.val (.int x0), .val (.int x1), .val (.int x2), .val (.int x3), .val (.int x4), .val (.int (2 : Int32)), .val (.int E0), .val (.int ((E0 + (1 : Int32)) + (x3 &&& (127 : Int32)))), .val (.int ((((E0 + (1 : Int32)) + (x3 &&& (127 : Int32))) + (1 : Int32)) + (x4 &&& (127 : Int32)))), .val (.ref b8), .val (.int (1 : Int32))] [(.ref b8)])) rfl (by rw [hml]; rfl) (argsL := [(.ref b8)]) (rest := []) (lenOf pd_0 rfl) rfl (by show 2 * 0 + _ ≤ _; exact Nat.le_of_eq rfl) (hb hby at_132) (fun _ _ => ⟨rfl, e12, (by decide : 1 + 0 ≤ _), (by decide : 2 + 0 ≤ _)⟩)
      dsimp only [Pt.U, Pt.locs, Pt.cells, Pt.slots] at X13 l13 y13 z13 st13 hQ13
      subst l13 y13 z13
      obtain ⟨rfl, N13q, e13⟩ := hQ13
      have N13 := Fr.app N12 N13q
      refine own_go st13 ?_
      show own_G p e below s _ _ _ (T13.setTop (mkF m 135 #[.val (.int x0), .val (.int x1), .val (.int x2), .val (.int x3), .val (.int x4), .val (.int (2 : Int32)), .val (.int E0), .val (.int ((E0 + (1 : Int32)) + (x3 &&& (127 : Int32)))), .val (.int ((((E0 + (1 : Int32)) + (x3 &&& (127 : Int32))) + (1 : Int32)) + (x4 &&& (127 : Int32)))), .val (.ref b8), .val (.int (1 : Int32))] [(.int (1 : Int32))]))
      refine own_go (fun _ k => XS.iload X13.here hx rfl (hb hby at_135) rfl k) ?_
      show own_G p e below s _ _ _ (T13.setTop (mkF m 137 #[.val (.int x0), .val (.int x1), .val (.int x2), .val (.int x3), .val (.int x4), .val (.int (2 : Int32)), .val (.int E0), .val (.int ((E0 + (1 : Int32)) + (x3 &&& (127 : Int32)))), .val (.int ((((E0 + (1 : Int32)) + (x3 &&& (127 : Int32))) + (1 : Int32)) + (x4 &&& (127 : Int32)))), .val (.ref b8), .val (.int (1 : Int32))] [(.int (1 : Int32)), (.int (1 : Int32))]))
      refine own_ic_neN X13 hx (pc := 137) (hb hby at_137) (by decide) ?_
      show own_G p e below s _ _ _ (T13.setTop (mkF m 140 #[.val (.int x0), .val (.int x1), .val (.int x2), .val (.int x3), .val (.int x4), .val (.int (2 : Int32)), .val (.int E0), .val (.int ((E0 + (1 : Int32)) + (x3 &&& (127 : Int32)))), .val (.int ((((E0 + (1 : Int32)) + (x3 &&& (127 : Int32))) + (1 : Int32)) + (x4 &&& (127 : Int32)))), .val (.ref b8), .val (.int (1 : Int32))] []))
      refine own_go (fun _ k => XS.iconst X13.here hx rfl (hb hby at_140) k) ?_
      show own_G p e below s _ _ _ (T13.setTop (mkF m 141 #[.val (.int x0), .val (.int x1), .val (.int x2), .val (.int x3), .val (.int x4), .val (.int (2 : Int32)), .val (.int E0), .val (.int ((E0 + (1 : Int32)) + (x3 &&& (127 : Int32)))), .val (.int ((((E0 + (1 : Int32)) + (x3 &&& (127 : Int32))) + (1 : Int32)) + (x4 &&& (127 : Int32)))), .val (.ref b8), .val (.int (1 : Int32))] [(.int (1 : Int32))]))
      refine own_go (fun _ k => XS.goto X13.here hx rfl (pc0 := 141) (pc' := 145) rfl (hb hby at_141) (by decide) (by decide) k) ?_
      show own_G p e below s _ _ _ (T13.setTop (mkF m 145 #[.val (.int x0), .val (.int x1), .val (.int x2), .val (.int x3), .val (.int x4), .val (.int (2 : Int32)), .val (.int E0), .val (.int ((E0 + (1 : Int32)) + (x3 &&& (127 : Int32)))), .val (.int ((((E0 + (1 : Int32)) + (x3 &&& (127 : Int32))) + (1 : Int32)) + (x4 &&& (127 : Int32)))), .val (.ref b8), .val (.int (1 : Int32))] [(.int (1 : Int32))]))
      exact own_retN (t := .boolean) (ht := by simp) X13 hx Bd.returns (BodyLoose.notSynchronized Bd) (hb hby at_145) e13 ⟨rfl, N13⟩ (by decide) (by decide)
    · show own_G p e below s _ _ _ (T12.setTop (mkF m 101 #[.val (.int x0), .val (.int x1), .val (.int x2), .val (.int x3), .val (.int x4), .val (.int (2 : Int32)), .val (.int E0), .val (.int ((E0 + (1 : Int32)) + (x3 &&& (127 : Int32)))), .val (.int ((((E0 + (1 : Int32)) + (x3 &&& (127 : Int32))) + (1 : Int32)) + (x4 &&& (127 : Int32)))), .val (.ref b8), .unset] []))
      refine own_go (fun _ k => XS.iload X12.here hx rfl (hb hby at_101) rfl k) ?_
      show own_G p e below s _ _ _ (T12.setTop (mkF m 103 #[.val (.int x0), .val (.int x1), .val (.int x2), .val (.int x3), .val (.int x4), .val (.int (2 : Int32)), .val (.int E0), .val (.int ((E0 + (1 : Int32)) + (x3 &&& (127 : Int32)))), .val (.int ((((E0 + (1 : Int32)) + (x3 &&& (127 : Int32))) + (1 : Int32)) + (x4 &&& (127 : Int32)))), .val (.ref b8), .unset] [(.int (2 : Int32))]))
      refine own_go (fun _ k => XS.iconst X12.here hx rfl (hb hby at_103) k) ?_
      show own_G p e below s _ _ _ (T12.setTop (mkF m 104 #[.val (.int x0), .val (.int x1), .val (.int x2), .val (.int x3), .val (.int x4), .val (.int (2 : Int32)), .val (.int E0), .val (.int ((E0 + (1 : Int32)) + (x3 &&& (127 : Int32)))), .val (.int ((((E0 + (1 : Int32)) + (x3 &&& (127 : Int32))) + (1 : Int32)) + (x4 &&& (127 : Int32)))), .val (.ref b8), .unset] [(.int (2 : Int32)), (.int (2 : Int32))]))
      refine own_ic_ltN X12 hx (pc := 104) (hb hby at_104) (by decide) ?_
      show own_G p e below s _ _ _ (T12.setTop (mkF m 107 #[.val (.int x0), .val (.int x1), .val (.int x2), .val (.int x3), .val (.int x4), .val (.int (2 : Int32)), .val (.int E0), .val (.int ((E0 + (1 : Int32)) + (x3 &&& (127 : Int32)))), .val (.int ((((E0 + (1 : Int32)) + (x3 &&& (127 : Int32))) + (1 : Int32)) + (x4 &&& (127 : Int32)))), .val (.ref b8), .unset] []))
      refine own_go (fun _ k => XS.iload X12.here hx rfl (hb hby at_107) rfl k) ?_
      show own_G p e below s _ _ _ (T12.setTop (mkF m 109 #[.val (.int x0), .val (.int x1), .val (.int x2), .val (.int x3), .val (.int x4), .val (.int (2 : Int32)), .val (.int E0), .val (.int ((E0 + (1 : Int32)) + (x3 &&& (127 : Int32)))), .val (.int ((((E0 + (1 : Int32)) + (x3 &&& (127 : Int32))) + (1 : Int32)) + (x4 &&& (127 : Int32)))), .val (.ref b8), .unset] [(.int ((E0 + (1 : Int32)) + (x3 &&& (127 : Int32))))]))
      refine own_if_eqN X12 hx (pc := 109) (hb hby at_109) hE1 ?_
      show own_G p e below s _ _ _ (T12.setTop (mkF m 112 #[.val (.int x0), .val (.int x1), .val (.int x2), .val (.int x3), .val (.int x4), .val (.int (2 : Int32)), .val (.int E0), .val (.int ((E0 + (1 : Int32)) + (x3 &&& (127 : Int32)))), .val (.int ((((E0 + (1 : Int32)) + (x3 &&& (127 : Int32))) + (1 : Int32)) + (x4 &&& (127 : Int32)))), .val (.ref b8), .unset] []))
      refine own_go (fun _ k => XS.iload X12.here hx rfl (hb hby at_112) rfl k) ?_
      show own_G p e below s _ _ _ (T12.setTop (mkF m 114 #[.val (.int x0), .val (.int x1), .val (.int x2), .val (.int x3), .val (.int x4), .val (.int (2 : Int32)), .val (.int E0), .val (.int ((E0 + (1 : Int32)) + (x3 &&& (127 : Int32)))), .val (.int ((((E0 + (1 : Int32)) + (x3 &&& (127 : Int32))) + (1 : Int32)) + (x4 &&& (127 : Int32)))), .val (.ref b8), .unset] [(.int (2 : Int32))]))
      refine own_go (fun _ k => XS.iconst X12.here hx rfl (hb hby at_114) k) ?_
      show own_G p e below s _ _ _ (T12.setTop (mkF m 115 #[.val (.int x0), .val (.int x1), .val (.int x2), .val (.int x3), .val (.int x4), .val (.int (2 : Int32)), .val (.int E0), .val (.int ((E0 + (1 : Int32)) + (x3 &&& (127 : Int32)))), .val (.int ((((E0 + (1 : Int32)) + (x3 &&& (127 : Int32))) + (1 : Int32)) + (x4 &&& (127 : Int32)))), .val (.ref b8), .unset] [(.int (3 : Int32)), (.int (2 : Int32))]))
      refine own_ic_ltY X12 hx (pc := 115) (pc' := 127) (hb hby at_115) (by decide) (by decide) (by decide) ?_
      show own_G p e below s _ _ _ (T12.setTop (mkF m 127 #[.val (.int x0), .val (.int x1), .val (.int x2), .val (.int x3), .val (.int x4), .val (.int (2 : Int32)), .val (.int E0), .val (.int ((E0 + (1 : Int32)) + (x3 &&& (127 : Int32)))), .val (.int ((((E0 + (1 : Int32)) + (x3 &&& (127 : Int32))) + (1 : Int32)) + (x4 &&& (127 : Int32)))), .val (.ref b8), .unset] []))
      refine own_go (fun _ k => XS.iconst X12.here hx rfl (hb hby at_127) k) ?_
      show own_G p e below s _ _ _ (T12.setTop (mkF m 128 #[.val (.int x0), .val (.int x1), .val (.int x2), .val (.int x3), .val (.int x4), .val (.int (2 : Int32)), .val (.int E0), .val (.int ((E0 + (1 : Int32)) + (x3 &&& (127 : Int32)))), .val (.int ((((E0 + (1 : Int32)) + (x3 &&& (127 : Int32))) + (1 : Int32)) + (x4 &&& (127 : Int32)))), .val (.ref b8), .unset] [(.int (0 : Int32))]))
      refine own_go (fun _ k => XS.istore X12.here hx rfl (hb hby at_128) rfl (l' := #[.val (.int x0), .val (.int x1), .val (.int x2), .val (.int x3), .val (.int x4), .val (.int (2 : Int32)), .val (.int E0), .val (.int ((E0 + (1 : Int32)) + (x3 &&& (127 : Int32)))), .val (.int ((((E0 + (1 : Int32)) + (x3 &&& (127 : Int32))) + (1 : Int32)) + (x4 &&& (127 : Int32)))), .val (.ref b8), .val (.int (0 : Int32))]) rfl k) ?_
      show own_G p e below s _ _ _ (T12.setTop (mkF m 130 #[.val (.int x0), .val (.int x1), .val (.int x2), .val (.int x3), .val (.int x4), .val (.int (2 : Int32)), .val (.int E0), .val (.int ((E0 + (1 : Int32)) + (x3 &&& (127 : Int32)))), .val (.int ((((E0 + (1 : Int32)) + (x3 &&& (127 : Int32))) + (1 : Int32)) + (x4 &&& (127 : Int32)))), .val (.ref b8), .val (.int (0 : Int32))] []))
      refine own_go (fun _ k => XS.aload X12.here hx rfl (hb hby at_130) rfl rfl k) ?_
      show own_G p e below s _ _ _ (T12.setTop (mkF m 132 #[.val (.int x0), .val (.int x1), .val (.int x2), .val (.int x3), .val (.int x4), .val (.int (2 : Int32)), .val (.int E0), .val (.int ((E0 + (1 : Int32)) + (x3 &&& (127 : Int32)))), .val (.int ((((E0 + (1 : Int32)) + (x3 &&& (127 : Int32))) + (1 : Int32)) + (x4 &&& (127 : Int32)))), .val (.ref b8), .val (.int (0 : Int32))] [(.ref b8)]))
      obtain ⟨_, _, ⟨T14, L14, k14, n14⟩, -, X14, ⟨Lc14, hQ14, l14, y14, z14⟩, st14⟩ := Jvm.LawKit.callS X12 hx (y := (⟨"dev/rulebound/RegexProgram", "accepts", "([I)Z"⟩ : MethodName)) hown (mvT hZ (hw _ (List.mem_of_getElem? (i := 1) rfl))) (mvT hZ (hw _ (List.mem_of_getElem? (i := 2) rfl))) (mvT hZ (hw _ (List.mem_of_getElem? (i := 3) rfl))) (mvT hZ (hw _ (List.mem_of_getElem? (i := 4) rfl))) (by decide) (backOf (W := 0) (rmA2 l Z a0 hw [] b8 k8 (2 : Int32) [(.int E0), (.int ((E0 + (1 : Int32)) + (x3 &&& (127 : Int32))))] E0 h12 n0 Z12 V12_b8 (by decide) rfl hc98) hZ (hw _ (List.mem_of_getElem? (i := 4) rfl)) (hw _ (List.mem_of_getElem? (i := 3) rfl)) (by decide) (by decide)) (g := (mkF m 132 #[.val (.int x0), .val (.int x1), .val (.int x2), .val (.int x3), .val (.int x4), .val (.int (2 : Int32)), .val (.int E0), .val (.int ((E0 + (1 : Int32)) + (x3 &&& (127 : Int32)))), .val (.int ((((E0 + (1 : Int32)) + (x3 &&& (127 : Int32))) + (1 : Int32)) + (x4 &&& (127 : Int32)))), .val (.ref b8), .val (.int (0 : Int32))] [(.ref b8)])) rfl (by rw [hml]; rfl) (argsL := [(.ref b8)]) (rest := []) (lenOf pd_0 rfl) rfl (by show 2 * 0 + _ ≤ _; exact Nat.le_of_eq rfl) (hb hby at_132) (fun _ _ => ⟨rfl, e12, (by decide : 1 + 0 ≤ _), (by decide : 2 + 0 ≤ _)⟩)
      dsimp only [Pt.U, Pt.locs, Pt.cells, Pt.slots] at X14 l14 y14 z14 st14 hQ14
      subst l14 y14 z14
      obtain ⟨rfl, N14q, e14⟩ := hQ14
      have N14 := Fr.app N12 N14q
      refine own_go st14 ?_
      show own_G p e below s _ _ _ (T14.setTop (mkF m 135 #[.val (.int x0), .val (.int x1), .val (.int x2), .val (.int x3), .val (.int x4), .val (.int (2 : Int32)), .val (.int E0), .val (.int ((E0 + (1 : Int32)) + (x3 &&& (127 : Int32)))), .val (.int ((((E0 + (1 : Int32)) + (x3 &&& (127 : Int32))) + (1 : Int32)) + (x4 &&& (127 : Int32)))), .val (.ref b8), .val (.int (0 : Int32))] [(.int (0 : Int32))]))
      refine own_go (fun _ k => XS.iload X14.here hx rfl (hb hby at_135) rfl k) ?_
      show own_G p e below s _ _ _ (T14.setTop (mkF m 137 #[.val (.int x0), .val (.int x1), .val (.int x2), .val (.int x3), .val (.int x4), .val (.int (2 : Int32)), .val (.int E0), .val (.int ((E0 + (1 : Int32)) + (x3 &&& (127 : Int32)))), .val (.int ((((E0 + (1 : Int32)) + (x3 &&& (127 : Int32))) + (1 : Int32)) + (x4 &&& (127 : Int32)))), .val (.ref b8), .val (.int (0 : Int32))] [(.int (0 : Int32)), (.int (0 : Int32))]))
      refine own_ic_neN X14 hx (pc := 137) (hb hby at_137) (by decide) ?_
      show own_G p e below s _ _ _ (T14.setTop (mkF m 140 #[.val (.int x0), .val (.int x1), .val (.int x2), .val (.int x3), .val (.int x4), .val (.int (2 : Int32)), .val (.int E0), .val (.int ((E0 + (1 : Int32)) + (x3 &&& (127 : Int32)))), .val (.int ((((E0 + (1 : Int32)) + (x3 &&& (127 : Int32))) + (1 : Int32)) + (x4 &&& (127 : Int32)))), .val (.ref b8), .val (.int (0 : Int32))] []))
      refine own_go (fun _ k => XS.iconst X14.here hx rfl (hb hby at_140) k) ?_
      show own_G p e below s _ _ _ (T14.setTop (mkF m 141 #[.val (.int x0), .val (.int x1), .val (.int x2), .val (.int x3), .val (.int x4), .val (.int (2 : Int32)), .val (.int E0), .val (.int ((E0 + (1 : Int32)) + (x3 &&& (127 : Int32)))), .val (.int ((((E0 + (1 : Int32)) + (x3 &&& (127 : Int32))) + (1 : Int32)) + (x4 &&& (127 : Int32)))), .val (.ref b8), .val (.int (0 : Int32))] [(.int (1 : Int32))]))
      refine own_go (fun _ k => XS.goto X14.here hx rfl (pc0 := 141) (pc' := 145) rfl (hb hby at_141) (by decide) (by decide) k) ?_
      show own_G p e below s _ _ _ (T14.setTop (mkF m 145 #[.val (.int x0), .val (.int x1), .val (.int x2), .val (.int x3), .val (.int x4), .val (.int (2 : Int32)), .val (.int E0), .val (.int ((E0 + (1 : Int32)) + (x3 &&& (127 : Int32)))), .val (.int ((((E0 + (1 : Int32)) + (x3 &&& (127 : Int32))) + (1 : Int32)) + (x4 &&& (127 : Int32)))), .val (.ref b8), .val (.int (0 : Int32))] [(.int (1 : Int32))]))
      exact own_retN (t := .boolean) (ht := by simp) X14 hx Bd.returns (BodyLoose.notSynchronized Bd) (hb hby at_145) e14 ⟨rfl, N14⟩ (by decide) (by decide)
  · skip
    suffices J : ∀ (E0 : Int32), 0 ≤ E0.toInt ∧ E0.toInt < 200 → own_G p e below s (Q_rm0 Z x0 x1 x2 x3 x4 h0 n0) 16 128 (s₁.setTop (mkF m 23 #[.val (.int x0), .val (.int x1), .val (.int x2), .val (.int x3), .val (.int x4), .val (.int (3 : Int32)), .unset, .unset, .unset, .unset, .unset] [(.int E0)])) by
      show own_G p e below s _ _ _ (s₁.setTop (mkF m 3 #[.val (.int x0), .val (.int x1), .val (.int x2), .val (.int x3), .val (.int x4), .unset, .unset, .unset, .unset, .unset, .unset] [(.int (3 : Int32))]))
      refine own_go (fun _ k => XS.istore X0.here hx rfl (hb hby at_3) rfl (l' := #[.val (.int x0), .val (.int x1), .val (.int x2), .val (.int x3), .val (.int x4), .val (.int (3 : Int32)), .unset, .unset, .unset, .unset, .unset]) rfl k) ?_
      show own_G p e below s _ _ _ (s₁.setTop (mkF m 5 #[.val (.int x0), .val (.int x1), .val (.int x2), .val (.int x3), .val (.int x4), .val (.int (3 : Int32)), .unset, .unset, .unset, .unset, .unset] []))
      refine own_go (fun _ k => XS.iloadN X0.here hx rfl (hb hby at_5) rfl k) ?_
      show own_G p e below s _ _ _ (s₁.setTop (mkF m 6 #[.val (.int x0), .val (.int x1), .val (.int x2), .val (.int x3), .val (.int x4), .val (.int (3 : Int32)), .unset, .unset, .unset, .unset, .unset] [(.int x1)]))
      refine own_go (fun _ k => XS.iconst X0.here hx rfl (hb hby at_6) k) ?_
      show own_G p e below s _ _ _ (s₁.setTop (mkF m 7 #[.val (.int x0), .val (.int x1), .val (.int x2), .val (.int x3), .val (.int x4), .val (.int (3 : Int32)), .unset, .unset, .unset, .unset, .unset] [(.int (1 : Int32)), (.int x1)]))
      refine own_go (fun _ k => XS.iand X0.here hx rfl (hb hby at_7) rfl k) ?_
      show own_G p e below s _ _ _ (s₁.setTop (mkF m 8 #[.val (.int x0), .val (.int x1), .val (.int x2), .val (.int x3), .val (.int x4), .val (.int (3 : Int32)), .unset, .unset, .unset, .unset, .unset] [(.int (x1 &&& (1 : Int32)))]))
      refine own_if_eq X0 hx (pc := 8) (pc' := 15) (hb hby at_8) (by decide) (by decide) (fun hc8 => ?_) (fun hc8 => ?_)
      · show own_G p e below s _ _ _ (s₁.setTop (mkF m 15 #[.val (.int x0), .val (.int x1), .val (.int x2), .val (.int x3), .val (.int x4), .val (.int (3 : Int32)), .unset, .unset, .unset, .unset, .unset] []))
        refine own_go (fun _ k => XS.iloadN X0.here hx rfl (hb hby at_15) rfl k) ?_
        show own_G p e below s _ _ _ (s₁.setTop (mkF m 16 #[.val (.int x0), .val (.int x1), .val (.int x2), .val (.int x3), .val (.int x4), .val (.int (3 : Int32)), .unset, .unset, .unset, .unset, .unset] [(.int x2)]))
        refine own_go (fun _ k => X0.ldcInt hx hown (mvT hZ (hw _ (List.mem_of_getElem? (i := 5) rfl))) (g := (mkF m 16 #[.val (.int x0), .val (.int x1), .val (.int x2), .val (.int x3), .val (.int x4), .val (.int (3 : Int32)), .unset, .unset, .unset, .unset, .unset] [(.int x2)])) rfl (hb hby at_16) _ k) ?_
        show own_G p e below s _ _ _ (s₁.setTop (mkF m 18 #[.val (.int x0), .val (.int x1), .val (.int x2), .val (.int x3), .val (.int x4), .val (.int (3 : Int32)), .unset, .unset, .unset, .unset, .unset] [(.int (2147483647 : Int32)), (.int x2)]))
        refine own_go (fun _ k => XS.iand X0.here hx rfl (hb hby at_18) rfl k) ?_
        show own_G p e below s _ _ _ (s₁.setTop (mkF m 19 #[.val (.int x0), .val (.int x1), .val (.int x2), .val (.int x3), .val (.int x4), .val (.int (3 : Int32)), .unset, .unset, .unset, .unset, .unset] [(.int (x2 &&& (2147483647 : Int32)))]))
        refine own_go (fun _ k => XS.sipush X0.here hx rfl (hb hby at_19) k) ?_
        show own_G p e below s _ _ _ (s₁.setTop (mkF m 22 #[.val (.int x0), .val (.int x1), .val (.int x2), .val (.int x3), .val (.int x4), .val (.int (3 : Int32)), .unset, .unset, .unset, .unset, .unset] [(.int (200 : Int32)), (.int (x2 &&& (2147483647 : Int32)))]))
        refine own_go (fun _ k => iremM X0 hx rfl (hb hby at_22) rfl (by decide) k) ?_
        exact J _ (own_e0 x2)
      · show own_G p e below s _ _ _ (s₁.setTop (mkF m 11 #[.val (.int x0), .val (.int x1), .val (.int x2), .val (.int x3), .val (.int x4), .val (.int (3 : Int32)), .unset, .unset, .unset, .unset, .unset] []))
        refine own_go (fun _ k => XS.iconst X0.here hx rfl (hb hby at_11) k) ?_
        show own_G p e below s _ _ _ (s₁.setTop (mkF m 12 #[.val (.int x0), .val (.int x1), .val (.int x2), .val (.int x3), .val (.int x4), .val (.int (3 : Int32)), .unset, .unset, .unset, .unset, .unset] [(.int (0 : Int32))]))
        refine own_go (fun _ k => XS.goto X0.here hx rfl (pc0 := 12) (pc' := 23) rfl (hb hby at_12) (by decide) (by decide) k) ?_
        exact J _ (by decide)
    intro E0 hE0
    have hq1 := own_e1 E0 x3 200 (by decide) hE0
    have hq2 := own_e1 ((E0 + (1 : Int32)) + (x3 &&& (127 : Int32))) x4 328 (by decide) ⟨by omega, by omega⟩
    have hE1 := own_pos hq1.1
    have hE2 := own_pos hq2.1
    show own_G p e below s _ _ _ (s₁.setTop (mkF m 23 #[.val (.int x0), .val (.int x1), .val (.int x2), .val (.int x3), .val (.int x4), .val (.int (3 : Int32)), .unset, .unset, .unset, .unset, .unset] [(.int E0)]))
    refine own_go (fun _ k => XS.istore X0.here hx rfl (hb hby at_23) rfl (l' := #[.val (.int x0), .val (.int x1), .val (.int x2), .val (.int x3), .val (.int x4), .val (.int (3 : Int32)), .val (.int E0), .unset, .unset, .unset, .unset]) rfl k) ?_
    show own_G p e below s _ _ _ (s₁.setTop (mkF m 25 #[.val (.int x0), .val (.int x1), .val (.int x2), .val (.int x3), .val (.int x4), .val (.int (3 : Int32)), .val (.int E0), .unset, .unset, .unset, .unset] []))
    refine own_go (fun _ k => XS.iload X0.here hx rfl (hb hby at_25) rfl k) ?_
    show own_G p e below s _ _ _ (s₁.setTop (mkF m 27 #[.val (.int x0), .val (.int x1), .val (.int x2), .val (.int x3), .val (.int x4), .val (.int (3 : Int32)), .val (.int E0), .unset, .unset, .unset, .unset] [(.int E0)]))
    refine own_go (fun _ k => XS.iconst X0.here hx rfl (hb hby at_27) k) ?_
    show own_G p e below s _ _ _ (s₁.setTop (mkF m 28 #[.val (.int x0), .val (.int x1), .val (.int x2), .val (.int x3), .val (.int x4), .val (.int (3 : Int32)), .val (.int E0), .unset, .unset, .unset, .unset] [(.int (1 : Int32)), (.int E0)]))
    refine own_go (fun _ k => XS.iadd X0.here hx rfl (hb hby at_28) rfl k) ?_
    show own_G p e below s _ _ _ (s₁.setTop (mkF m 29 #[.val (.int x0), .val (.int x1), .val (.int x2), .val (.int x3), .val (.int x4), .val (.int (3 : Int32)), .val (.int E0), .unset, .unset, .unset, .unset] [(.int (E0 + (1 : Int32)))]))
    refine own_go (fun _ k => XS.iloadN X0.here hx rfl (hb hby at_29) rfl k) ?_
    show own_G p e below s _ _ _ (s₁.setTop (mkF m 30 #[.val (.int x0), .val (.int x1), .val (.int x2), .val (.int x3), .val (.int x4), .val (.int (3 : Int32)), .val (.int E0), .unset, .unset, .unset, .unset] [(.int x3), (.int (E0 + (1 : Int32)))]))
    refine own_go (fun _ k => XS.bipush X0.here hx rfl (hb hby at_30) k) ?_
    show own_G p e below s _ _ _ (s₁.setTop (mkF m 32 #[.val (.int x0), .val (.int x1), .val (.int x2), .val (.int x3), .val (.int x4), .val (.int (3 : Int32)), .val (.int E0), .unset, .unset, .unset, .unset] [(.int (127 : Int32)), (.int x3), (.int (E0 + (1 : Int32)))]))
    refine own_go (fun _ k => XS.iand X0.here hx rfl (hb hby at_32) rfl k) ?_
    show own_G p e below s _ _ _ (s₁.setTop (mkF m 33 #[.val (.int x0), .val (.int x1), .val (.int x2), .val (.int x3), .val (.int x4), .val (.int (3 : Int32)), .val (.int E0), .unset, .unset, .unset, .unset] [(.int (x3 &&& (127 : Int32))), (.int (E0 + (1 : Int32)))]))
    refine own_go (fun _ k => XS.iadd X0.here hx rfl (hb hby at_33) rfl k) ?_
    show own_G p e below s _ _ _ (s₁.setTop (mkF m 34 #[.val (.int x0), .val (.int x1), .val (.int x2), .val (.int x3), .val (.int x4), .val (.int (3 : Int32)), .val (.int E0), .unset, .unset, .unset, .unset] [(.int ((E0 + (1 : Int32)) + (x3 &&& (127 : Int32))))]))
    refine own_go (fun _ k => XS.istore X0.here hx rfl (hb hby at_34) rfl (l' := #[.val (.int x0), .val (.int x1), .val (.int x2), .val (.int x3), .val (.int x4), .val (.int (3 : Int32)), .val (.int E0), .val (.int ((E0 + (1 : Int32)) + (x3 &&& (127 : Int32)))), .unset, .unset, .unset]) rfl k) ?_
    show own_G p e below s _ _ _ (s₁.setTop (mkF m 36 #[.val (.int x0), .val (.int x1), .val (.int x2), .val (.int x3), .val (.int x4), .val (.int (3 : Int32)), .val (.int E0), .val (.int ((E0 + (1 : Int32)) + (x3 &&& (127 : Int32)))), .unset, .unset, .unset] []))
    refine own_go (fun _ k => XS.iload X0.here hx rfl (hb hby at_36) rfl k) ?_
    show own_G p e below s _ _ _ (s₁.setTop (mkF m 38 #[.val (.int x0), .val (.int x1), .val (.int x2), .val (.int x3), .val (.int x4), .val (.int (3 : Int32)), .val (.int E0), .val (.int ((E0 + (1 : Int32)) + (x3 &&& (127 : Int32)))), .unset, .unset, .unset] [(.int ((E0 + (1 : Int32)) + (x3 &&& (127 : Int32))))]))
    refine own_go (fun _ k => XS.iconst X0.here hx rfl (hb hby at_38) k) ?_
    show own_G p e below s _ _ _ (s₁.setTop (mkF m 39 #[.val (.int x0), .val (.int x1), .val (.int x2), .val (.int x3), .val (.int x4), .val (.int (3 : Int32)), .val (.int E0), .val (.int ((E0 + (1 : Int32)) + (x3 &&& (127 : Int32)))), .unset, .unset, .unset] [(.int (1 : Int32)), (.int ((E0 + (1 : Int32)) + (x3 &&& (127 : Int32))))]))
    refine own_go (fun _ k => XS.iadd X0.here hx rfl (hb hby at_39) rfl k) ?_
    show own_G p e below s _ _ _ (s₁.setTop (mkF m 40 #[.val (.int x0), .val (.int x1), .val (.int x2), .val (.int x3), .val (.int x4), .val (.int (3 : Int32)), .val (.int E0), .val (.int ((E0 + (1 : Int32)) + (x3 &&& (127 : Int32)))), .unset, .unset, .unset] [(.int (((E0 + (1 : Int32)) + (x3 &&& (127 : Int32))) + (1 : Int32)))]))
    refine own_go (fun _ k => XS.iload X0.here hx rfl (hb hby at_40) rfl k) ?_
    show own_G p e below s _ _ _ (s₁.setTop (mkF m 42 #[.val (.int x0), .val (.int x1), .val (.int x2), .val (.int x3), .val (.int x4), .val (.int (3 : Int32)), .val (.int E0), .val (.int ((E0 + (1 : Int32)) + (x3 &&& (127 : Int32)))), .unset, .unset, .unset] [(.int x4), (.int (((E0 + (1 : Int32)) + (x3 &&& (127 : Int32))) + (1 : Int32)))]))
    refine own_go (fun _ k => XS.bipush X0.here hx rfl (hb hby at_42) k) ?_
    show own_G p e below s _ _ _ (s₁.setTop (mkF m 44 #[.val (.int x0), .val (.int x1), .val (.int x2), .val (.int x3), .val (.int x4), .val (.int (3 : Int32)), .val (.int E0), .val (.int ((E0 + (1 : Int32)) + (x3 &&& (127 : Int32)))), .unset, .unset, .unset] [(.int (127 : Int32)), (.int x4), (.int (((E0 + (1 : Int32)) + (x3 &&& (127 : Int32))) + (1 : Int32)))]))
    refine own_go (fun _ k => XS.iand X0.here hx rfl (hb hby at_44) rfl k) ?_
    show own_G p e below s _ _ _ (s₁.setTop (mkF m 45 #[.val (.int x0), .val (.int x1), .val (.int x2), .val (.int x3), .val (.int x4), .val (.int (3 : Int32)), .val (.int E0), .val (.int ((E0 + (1 : Int32)) + (x3 &&& (127 : Int32)))), .unset, .unset, .unset] [(.int (x4 &&& (127 : Int32))), (.int (((E0 + (1 : Int32)) + (x3 &&& (127 : Int32))) + (1 : Int32)))]))
    refine own_go (fun _ k => XS.iadd X0.here hx rfl (hb hby at_45) rfl k) ?_
    show own_G p e below s _ _ _ (s₁.setTop (mkF m 46 #[.val (.int x0), .val (.int x1), .val (.int x2), .val (.int x3), .val (.int x4), .val (.int (3 : Int32)), .val (.int E0), .val (.int ((E0 + (1 : Int32)) + (x3 &&& (127 : Int32)))), .unset, .unset, .unset] [(.int ((((E0 + (1 : Int32)) + (x3 &&& (127 : Int32))) + (1 : Int32)) + (x4 &&& (127 : Int32))))]))
    refine own_go (fun _ k => XS.istore X0.here hx rfl (hb hby at_46) rfl (l' := #[.val (.int x0), .val (.int x1), .val (.int x2), .val (.int x3), .val (.int x4), .val (.int (3 : Int32)), .val (.int E0), .val (.int ((E0 + (1 : Int32)) + (x3 &&& (127 : Int32)))), .val (.int ((((E0 + (1 : Int32)) + (x3 &&& (127 : Int32))) + (1 : Int32)) + (x4 &&& (127 : Int32)))), .unset, .unset]) rfl k) ?_
    show own_G p e below s _ _ _ (s₁.setTop (mkF m 48 #[.val (.int x0), .val (.int x1), .val (.int x2), .val (.int x3), .val (.int x4), .val (.int (3 : Int32)), .val (.int E0), .val (.int ((E0 + (1 : Int32)) + (x3 &&& (127 : Int32)))), .val (.int ((((E0 + (1 : Int32)) + (x3 &&& (127 : Int32))) + (1 : Int32)) + (x4 &&& (127 : Int32)))), .unset, .unset] []))
    refine own_go (fun _ k => XS.iload X0.here hx rfl (hb hby at_48) rfl k) ?_
    show own_G p e below s _ _ _ (s₁.setTop (mkF m 50 #[.val (.int x0), .val (.int x1), .val (.int x2), .val (.int x3), .val (.int x4), .val (.int (3 : Int32)), .val (.int E0), .val (.int ((E0 + (1 : Int32)) + (x3 &&& (127 : Int32)))), .val (.int ((((E0 + (1 : Int32)) + (x3 &&& (127 : Int32))) + (1 : Int32)) + (x4 &&& (127 : Int32)))), .unset, .unset] [(.int (3 : Int32))]))
    obtain ⟨T15, h15, k15, X15, e15, E15, A15, st15⟩ := newP X0 hx hZ (hw _ (List.mem_of_getElem? (i := 0) rfl)) e0 (g := (mkF m 50 #[.val (.int x0), .val (.int x1), .val (.int x2), .val (.int x3), .val (.int x4), .val (.int (3 : Int32)), .val (.int E0), .val (.int ((E0 + (1 : Int32)) + (x3 &&& (127 : Int32)))), .val (.int ((((E0 + (1 : Int32)) + (x3 &&& (127 : Int32))) + (1 : Int32)) + (x4 &&& (127 : Int32)))), .unset, .unset] [(.int (3 : Int32))])) rfl (hb hby at_50) rfl (by decide) (cap := 3) (by decide) (by decide) (by decide) (by decide)
    obtain ⟨b15, g15⟩ : ∃ z, z = h0.size := ⟨_, rfl⟩
    rw [← g15] at A15 st15
    refine own_go st15 ?_
    have g_b15 : n0 ≤ b15 := Nat.le_trans Z0 (Nat.le_of_eq g15.symm)
    have Z15 : n0 ≤ h15.size := Nat.le_trans Z0 E15.1
    have V15_b15 : Arv Z h15 b15 k15 .int (3 : Int32) [(.int (0 : Int32)), (.int (0 : Int32)), (.int (0 : Int32))] (.int (0 : Int32)) := (Arv.new A15 (by decide)).pad (pad_rep [] (.int (0 : Int32)) 3)
    show own_G p e below s _ _ _ (T15.setTop (mkF m 52 #[.val (.int x0), .val (.int x1), .val (.int x2), .val (.int x3), .val (.int x4), .val (.int (3 : Int32)), .val (.int E0), .val (.int ((E0 + (1 : Int32)) + (x3 &&& (127 : Int32)))), .val (.int ((((E0 + (1 : Int32)) + (x3 &&& (127 : Int32))) + (1 : Int32)) + (x4 &&& (127 : Int32)))), .unset, .unset] [(.ref b15)]))
    refine own_go (fun _ k => XS.astore X15.here hx rfl (hb hby at_52) rfl rfl (l' := #[.val (.int x0), .val (.int x1), .val (.int x2), .val (.int x3), .val (.int x4), .val (.int (3 : Int32)), .val (.int E0), .val (.int ((E0 + (1 : Int32)) + (x3 &&& (127 : Int32)))), .val (.int ((((E0 + (1 : Int32)) + (x3 &&& (127 : Int32))) + (1 : Int32)) + (x4 &&& (127 : Int32)))), .val (.ref b15), .unset]) rfl k) ?_
    show own_G p e below s _ _ _ (T15.setTop (mkF m 54 #[.val (.int x0), .val (.int x1), .val (.int x2), .val (.int x3), .val (.int x4), .val (.int (3 : Int32)), .val (.int E0), .val (.int ((E0 + (1 : Int32)) + (x3 &&& (127 : Int32)))), .val (.int ((((E0 + (1 : Int32)) + (x3 &&& (127 : Int32))) + (1 : Int32)) + (x4 &&& (127 : Int32)))), .val (.ref b15), .unset] []))
    refine own_go (fun _ k => XS.iload X15.here hx rfl (hb hby at_54) rfl k) ?_
    show own_G p e below s _ _ _ (T15.setTop (mkF m 56 #[.val (.int x0), .val (.int x1), .val (.int x2), .val (.int x3), .val (.int x4), .val (.int (3 : Int32)), .val (.int E0), .val (.int ((E0 + (1 : Int32)) + (x3 &&& (127 : Int32)))), .val (.int ((((E0 + (1 : Int32)) + (x3 &&& (127 : Int32))) + (1 : Int32)) + (x4 &&& (127 : Int32)))), .val (.ref b15), .unset] [(.int (3 : Int32))]))
    refine own_go (fun _ k => XS.iconst X15.here hx rfl (hb hby at_56) k) ?_
    show own_G p e below s _ _ _ (T15.setTop (mkF m 57 #[.val (.int x0), .val (.int x1), .val (.int x2), .val (.int x3), .val (.int x4), .val (.int (3 : Int32)), .val (.int E0), .val (.int ((E0 + (1 : Int32)) + (x3 &&& (127 : Int32)))), .val (.int ((((E0 + (1 : Int32)) + (x3 &&& (127 : Int32))) + (1 : Int32)) + (x4 &&& (127 : Int32)))), .val (.ref b15), .unset] [(.int (1 : Int32)), (.int (3 : Int32))]))
    refine own_ic_ltN X15 hx (pc := 57) (hb hby at_57) (by decide) ?_
    show own_G p e below s _ _ _ (T15.setTop (mkF m 60 #[.val (.int x0), .val (.int x1), .val (.int x2), .val (.int x3), .val (.int x4), .val (.int (3 : Int32)), .val (.int E0), .val (.int ((E0 + (1 : Int32)) + (x3 &&& (127 : Int32)))), .val (.int ((((E0 + (1 : Int32)) + (x3 &&& (127 : Int32))) + (1 : Int32)) + (x4 &&& (127 : Int32)))), .val (.ref b15), .unset] []))
    refine own_go (fun _ k => XS.aload X15.here hx rfl (hb hby at_60) rfl rfl k) ?_
    show own_G p e below s _ _ _ (T15.setTop (mkF m 62 #[.val (.int x0), .val (.int x1), .val (.int x2), .val (.int x3), .val (.int x4), .val (.int (3 : Int32)), .val (.int E0), .val (.int ((E0 + (1 : Int32)) + (x3 &&& (127 : Int32)))), .val (.int ((((E0 + (1 : Int32)) + (x3 &&& (127 : Int32))) + (1 : Int32)) + (x4 &&& (127 : Int32)))), .val (.ref b15), .unset] [(.ref b15)]))
    refine own_go (fun _ k => XS.iconst X15.here hx rfl (hb hby at_62) k) ?_
    show own_G p e below s _ _ _ (T15.setTop (mkF m 63 #[.val (.int x0), .val (.int x1), .val (.int x2), .val (.int x3), .val (.int x4), .val (.int (3 : Int32)), .val (.int E0), .val (.int ((E0 + (1 : Int32)) + (x3 &&& (127 : Int32)))), .val (.int ((((E0 + (1 : Int32)) + (x3 &&& (127 : Int32))) + (1 : Int32)) + (x4 &&& (127 : Int32)))), .val (.ref b15), .unset] [(.int (0 : Int32)), (.ref b15)]))
    refine own_go (fun _ k => XS.iload X15.here hx rfl (hb hby at_63) rfl k) ?_
    show own_G p e below s _ _ _ (T15.setTop (mkF m 65 #[.val (.int x0), .val (.int x1), .val (.int x2), .val (.int x3), .val (.int x4), .val (.int (3 : Int32)), .val (.int E0), .val (.int ((E0 + (1 : Int32)) + (x3 &&& (127 : Int32)))), .val (.int ((((E0 + (1 : Int32)) + (x3 &&& (127 : Int32))) + (1 : Int32)) + (x4 &&& (127 : Int32)))), .val (.ref b15), .unset] [(.int E0), (.int (0 : Int32)), (.ref b15)]))
    have Vc16 := V15_b15
    obtain ⟨cl16, Ar16, q16, S16, M16, H16, G16⟩ := Vc16
    have hin16 := inb_of (j := (0 : Int32)) S16 ⟨(by decide), (by decide)⟩
    obtain ⟨T17, h17, X17, e17, W17, st17⟩ := stI X15 hx hZ e15 Ar16 (j := (0 : Int32)) hin16 (g := (mkF m 65 #[.val (.int x0), .val (.int x1), .val (.int x2), .val (.int x3), .val (.int x4), .val (.int (3 : Int32)), .val (.int E0), .val (.int ((E0 + (1 : Int32)) + (x3 &&& (127 : Int32)))), .val (.int ((((E0 + (1 : Int32)) + (x3 &&& (127 : Int32))) + (1 : Int32)) + (x4 &&& (127 : Int32)))), .val (.ref b15), .unset] [(.int E0), (.int (0 : Int32)), (.ref b15)])) rfl rfl (hb hby at_65)
    refine own_go st17 ?_
    have V17_b15 : Arv Z h17 b15 k15 .int (3 : Int32) [(.int E0), (.int (0 : Int32)), (.int (0 : Int32))] (.int (0 : Int32)) := Arv.set Ar16 q16 S16 M16 H16 G16 rfl W17 0 rfl (Nat.le_of_ble_eq_true rfl)
    have Z17 : n0 ≤ h17.size := by rw [W17.size]; exact Z15
    have N17 := Fr.snoc X17 N0 g_b15
    show own_G p e below s _ _ _ (T17.setTop (mkF m 66 #[.val (.int x0), .val (.int x1), .val (.int x2), .val (.int x3), .val (.int x4), .val (.int (3 : Int32)), .val (.int E0), .val (.int ((E0 + (1 : Int32)) + (x3 &&& (127 : Int32)))), .val (.int ((((E0 + (1 : Int32)) + (x3 &&& (127 : Int32))) + (1 : Int32)) + (x4 &&& (127 : Int32)))), .val (.ref b15), .unset] []))
    refine own_go (fun _ k => XS.iload X17.here hx rfl (hb hby at_66) rfl k) ?_
    show own_G p e below s _ _ _ (T17.setTop (mkF m 68 #[.val (.int x0), .val (.int x1), .val (.int x2), .val (.int x3), .val (.int x4), .val (.int (3 : Int32)), .val (.int E0), .val (.int ((E0 + (1 : Int32)) + (x3 &&& (127 : Int32)))), .val (.int ((((E0 + (1 : Int32)) + (x3 &&& (127 : Int32))) + (1 : Int32)) + (x4 &&& (127 : Int32)))), .val (.ref b15), .unset] [(.int (3 : Int32))]))
    refine own_go (fun _ k => XS.iconst X17.here hx rfl (hb hby at_68) k) ?_
    show own_G p e below s _ _ _ (T17.setTop (mkF m 69 #[.val (.int x0), .val (.int x1), .val (.int x2), .val (.int x3), .val (.int x4), .val (.int (3 : Int32)), .val (.int E0), .val (.int ((E0 + (1 : Int32)) + (x3 &&& (127 : Int32)))), .val (.int ((((E0 + (1 : Int32)) + (x3 &&& (127 : Int32))) + (1 : Int32)) + (x4 &&& (127 : Int32)))), .val (.ref b15), .unset] [(.int (2 : Int32)), (.int (3 : Int32))]))
    refine own_ic_ltN X17 hx (pc := 69) (hb hby at_69) (by decide) ?_
    show own_G p e below s _ _ _ (T17.setTop (mkF m 72 #[.val (.int x0), .val (.int x1), .val (.int x2), .val (.int x3), .val (.int x4), .val (.int (3 : Int32)), .val (.int E0), .val (.int ((E0 + (1 : Int32)) + (x3 &&& (127 : Int32)))), .val (.int ((((E0 + (1 : Int32)) + (x3 &&& (127 : Int32))) + (1 : Int32)) + (x4 &&& (127 : Int32)))), .val (.ref b15), .unset] []))
    refine own_go (fun _ k => XS.aload X17.here hx rfl (hb hby at_72) rfl rfl k) ?_
    show own_G p e below s _ _ _ (T17.setTop (mkF m 74 #[.val (.int x0), .val (.int x1), .val (.int x2), .val (.int x3), .val (.int x4), .val (.int (3 : Int32)), .val (.int E0), .val (.int ((E0 + (1 : Int32)) + (x3 &&& (127 : Int32)))), .val (.int ((((E0 + (1 : Int32)) + (x3 &&& (127 : Int32))) + (1 : Int32)) + (x4 &&& (127 : Int32)))), .val (.ref b15), .unset] [(.ref b15)]))
    refine own_go (fun _ k => XS.iconst X17.here hx rfl (hb hby at_74) k) ?_
    show own_G p e below s _ _ _ (T17.setTop (mkF m 75 #[.val (.int x0), .val (.int x1), .val (.int x2), .val (.int x3), .val (.int x4), .val (.int (3 : Int32)), .val (.int E0), .val (.int ((E0 + (1 : Int32)) + (x3 &&& (127 : Int32)))), .val (.int ((((E0 + (1 : Int32)) + (x3 &&& (127 : Int32))) + (1 : Int32)) + (x4 &&& (127 : Int32)))), .val (.ref b15), .unset] [(.int (1 : Int32)), (.ref b15)]))
    refine own_go (fun _ k => XS.iload X17.here hx rfl (hb hby at_75) rfl k) ?_
    show own_G p e below s _ _ _ (T17.setTop (mkF m 77 #[.val (.int x0), .val (.int x1), .val (.int x2), .val (.int x3), .val (.int x4), .val (.int (3 : Int32)), .val (.int E0), .val (.int ((E0 + (1 : Int32)) + (x3 &&& (127 : Int32)))), .val (.int ((((E0 + (1 : Int32)) + (x3 &&& (127 : Int32))) + (1 : Int32)) + (x4 &&& (127 : Int32)))), .val (.ref b15), .unset] [(.int ((E0 + (1 : Int32)) + (x3 &&& (127 : Int32)))), (.int (1 : Int32)), (.ref b15)]))
    have Vc18 := V17_b15
    obtain ⟨cl18, Ar18, q18, S18, M18, H18, G18⟩ := Vc18
    have hin18 := inb_of (j := (1 : Int32)) S18 ⟨(by decide), (by decide)⟩
    obtain ⟨T19, h19, X19, e19, W19, st19⟩ := stI X17 hx hZ e17 Ar18 (j := (1 : Int32)) hin18 (g := (mkF m 77 #[.val (.int x0), .val (.int x1), .val (.int x2), .val (.int x3), .val (.int x4), .val (.int (3 : Int32)), .val (.int E0), .val (.int ((E0 + (1 : Int32)) + (x3 &&& (127 : Int32)))), .val (.int ((((E0 + (1 : Int32)) + (x3 &&& (127 : Int32))) + (1 : Int32)) + (x4 &&& (127 : Int32)))), .val (.ref b15), .unset] [(.int ((E0 + (1 : Int32)) + (x3 &&& (127 : Int32)))), (.int (1 : Int32)), (.ref b15)])) rfl rfl (hb hby at_77)
    refine own_go st19 ?_
    have V19_b15 : Arv Z h19 b15 k15 .int (3 : Int32) [(.int E0), (.int ((E0 + (1 : Int32)) + (x3 &&& (127 : Int32)))), (.int (0 : Int32))] (.int (0 : Int32)) := Arv.set Ar18 q18 S18 M18 H18 G18 rfl W19 1 rfl (Nat.le_of_ble_eq_true rfl)
    have Z19 : n0 ≤ h19.size := by rw [W19.size]; exact Z17
    have N19 := Fr.snoc X19 N17 g_b15
    show own_G p e below s _ _ _ (T19.setTop (mkF m 78 #[.val (.int x0), .val (.int x1), .val (.int x2), .val (.int x3), .val (.int x4), .val (.int (3 : Int32)), .val (.int E0), .val (.int ((E0 + (1 : Int32)) + (x3 &&& (127 : Int32)))), .val (.int ((((E0 + (1 : Int32)) + (x3 &&& (127 : Int32))) + (1 : Int32)) + (x4 &&& (127 : Int32)))), .val (.ref b15), .unset] []))
    refine own_go (fun _ k => XS.iload X19.here hx rfl (hb hby at_78) rfl k) ?_
    show own_G p e below s _ _ _ (T19.setTop (mkF m 80 #[.val (.int x0), .val (.int x1), .val (.int x2), .val (.int x3), .val (.int x4), .val (.int (3 : Int32)), .val (.int E0), .val (.int ((E0 + (1 : Int32)) + (x3 &&& (127 : Int32)))), .val (.int ((((E0 + (1 : Int32)) + (x3 &&& (127 : Int32))) + (1 : Int32)) + (x4 &&& (127 : Int32)))), .val (.ref b15), .unset] [(.int (3 : Int32))]))
    refine own_go (fun _ k => XS.iconst X19.here hx rfl (hb hby at_80) k) ?_
    show own_G p e below s _ _ _ (T19.setTop (mkF m 81 #[.val (.int x0), .val (.int x1), .val (.int x2), .val (.int x3), .val (.int x4), .val (.int (3 : Int32)), .val (.int E0), .val (.int ((E0 + (1 : Int32)) + (x3 &&& (127 : Int32)))), .val (.int ((((E0 + (1 : Int32)) + (x3 &&& (127 : Int32))) + (1 : Int32)) + (x4 &&& (127 : Int32)))), .val (.ref b15), .unset] [(.int (3 : Int32)), (.int (3 : Int32))]))
    refine own_ic_ltN X19 hx (pc := 81) (hb hby at_81) (by decide) ?_
    show own_G p e below s _ _ _ (T19.setTop (mkF m 84 #[.val (.int x0), .val (.int x1), .val (.int x2), .val (.int x3), .val (.int x4), .val (.int (3 : Int32)), .val (.int E0), .val (.int ((E0 + (1 : Int32)) + (x3 &&& (127 : Int32)))), .val (.int ((((E0 + (1 : Int32)) + (x3 &&& (127 : Int32))) + (1 : Int32)) + (x4 &&& (127 : Int32)))), .val (.ref b15), .unset] []))
    refine own_go (fun _ k => XS.aload X19.here hx rfl (hb hby at_84) rfl rfl k) ?_
    show own_G p e below s _ _ _ (T19.setTop (mkF m 86 #[.val (.int x0), .val (.int x1), .val (.int x2), .val (.int x3), .val (.int x4), .val (.int (3 : Int32)), .val (.int E0), .val (.int ((E0 + (1 : Int32)) + (x3 &&& (127 : Int32)))), .val (.int ((((E0 + (1 : Int32)) + (x3 &&& (127 : Int32))) + (1 : Int32)) + (x4 &&& (127 : Int32)))), .val (.ref b15), .unset] [(.ref b15)]))
    refine own_go (fun _ k => XS.iconst X19.here hx rfl (hb hby at_86) k) ?_
    show own_G p e below s _ _ _ (T19.setTop (mkF m 87 #[.val (.int x0), .val (.int x1), .val (.int x2), .val (.int x3), .val (.int x4), .val (.int (3 : Int32)), .val (.int E0), .val (.int ((E0 + (1 : Int32)) + (x3 &&& (127 : Int32)))), .val (.int ((((E0 + (1 : Int32)) + (x3 &&& (127 : Int32))) + (1 : Int32)) + (x4 &&& (127 : Int32)))), .val (.ref b15), .unset] [(.int (2 : Int32)), (.ref b15)]))
    refine own_go (fun _ k => XS.iload X19.here hx rfl (hb hby at_87) rfl k) ?_
    show own_G p e below s _ _ _ (T19.setTop (mkF m 89 #[.val (.int x0), .val (.int x1), .val (.int x2), .val (.int x3), .val (.int x4), .val (.int (3 : Int32)), .val (.int E0), .val (.int ((E0 + (1 : Int32)) + (x3 &&& (127 : Int32)))), .val (.int ((((E0 + (1 : Int32)) + (x3 &&& (127 : Int32))) + (1 : Int32)) + (x4 &&& (127 : Int32)))), .val (.ref b15), .unset] [(.int ((((E0 + (1 : Int32)) + (x3 &&& (127 : Int32))) + (1 : Int32)) + (x4 &&& (127 : Int32)))), (.int (2 : Int32)), (.ref b15)]))
    have Vc20 := V19_b15
    obtain ⟨cl20, Ar20, q20, S20, M20, H20, G20⟩ := Vc20
    have hin20 := inb_of (j := (2 : Int32)) S20 ⟨(by decide), (by decide)⟩
    obtain ⟨T21, h21, X21, e21, W21, st21⟩ := stI X19 hx hZ e19 Ar20 (j := (2 : Int32)) hin20 (g := (mkF m 89 #[.val (.int x0), .val (.int x1), .val (.int x2), .val (.int x3), .val (.int x4), .val (.int (3 : Int32)), .val (.int E0), .val (.int ((E0 + (1 : Int32)) + (x3 &&& (127 : Int32)))), .val (.int ((((E0 + (1 : Int32)) + (x3 &&& (127 : Int32))) + (1 : Int32)) + (x4 &&& (127 : Int32)))), .val (.ref b15), .unset] [(.int ((((E0 + (1 : Int32)) + (x3 &&& (127 : Int32))) + (1 : Int32)) + (x4 &&& (127 : Int32)))), (.int (2 : Int32)), (.ref b15)])) rfl rfl (hb hby at_89)
    refine own_go st21 ?_
    have V21_b15 : Arv Z h21 b15 k15 .int (3 : Int32) [(.int E0), (.int ((E0 + (1 : Int32)) + (x3 &&& (127 : Int32)))), (.int ((((E0 + (1 : Int32)) + (x3 &&& (127 : Int32))) + (1 : Int32)) + (x4 &&& (127 : Int32))))] (.int (0 : Int32)) := Arv.set Ar20 q20 S20 M20 H20 G20 rfl W21 2 rfl (Nat.le_of_ble_eq_true rfl)
    have Z21 : n0 ≤ h21.size := by rw [W21.size]; exact Z19
    have N21 := Fr.snoc X21 N19 g_b15
    show own_G p e below s _ _ _ (T21.setTop (mkF m 90 #[.val (.int x0), .val (.int x1), .val (.int x2), .val (.int x3), .val (.int x4), .val (.int (3 : Int32)), .val (.int E0), .val (.int ((E0 + (1 : Int32)) + (x3 &&& (127 : Int32)))), .val (.int ((((E0 + (1 : Int32)) + (x3 &&& (127 : Int32))) + (1 : Int32)) + (x4 &&& (127 : Int32)))), .val (.ref b15), .unset] []))
    refine own_go (fun _ k => XS.iload X21.here hx rfl (hb hby at_90) rfl k) ?_
    show own_G p e below s _ _ _ (T21.setTop (mkF m 92 #[.val (.int x0), .val (.int x1), .val (.int x2), .val (.int x3), .val (.int x4), .val (.int (3 : Int32)), .val (.int E0), .val (.int ((E0 + (1 : Int32)) + (x3 &&& (127 : Int32)))), .val (.int ((((E0 + (1 : Int32)) + (x3 &&& (127 : Int32))) + (1 : Int32)) + (x4 &&& (127 : Int32)))), .val (.ref b15), .unset] [(.int (3 : Int32))]))
    refine own_go (fun _ k => XS.iconst X21.here hx rfl (hb hby at_92) k) ?_
    show own_G p e below s _ _ _ (T21.setTop (mkF m 93 #[.val (.int x0), .val (.int x1), .val (.int x2), .val (.int x3), .val (.int x4), .val (.int (3 : Int32)), .val (.int E0), .val (.int ((E0 + (1 : Int32)) + (x3 &&& (127 : Int32)))), .val (.int ((((E0 + (1 : Int32)) + (x3 &&& (127 : Int32))) + (1 : Int32)) + (x4 &&& (127 : Int32)))), .val (.ref b15), .unset] [(.int (1 : Int32)), (.int (3 : Int32))]))
    refine own_ic_ltN X21 hx (pc := 93) (hb hby at_93) (by decide) ?_
    show own_G p e below s _ _ _ (T21.setTop (mkF m 96 #[.val (.int x0), .val (.int x1), .val (.int x2), .val (.int x3), .val (.int x4), .val (.int (3 : Int32)), .val (.int E0), .val (.int ((E0 + (1 : Int32)) + (x3 &&& (127 : Int32)))), .val (.int ((((E0 + (1 : Int32)) + (x3 &&& (127 : Int32))) + (1 : Int32)) + (x4 &&& (127 : Int32)))), .val (.ref b15), .unset] []))
    refine own_go (fun _ k => XS.iload X21.here hx rfl (hb hby at_96) rfl k) ?_
    show own_G p e below s _ _ _ (T21.setTop (mkF m 98 #[.val (.int x0), .val (.int x1), .val (.int x2), .val (.int x3), .val (.int x4), .val (.int (3 : Int32)), .val (.int E0), .val (.int ((E0 + (1 : Int32)) + (x3 &&& (127 : Int32)))), .val (.int ((((E0 + (1 : Int32)) + (x3 &&& (127 : Int32))) + (1 : Int32)) + (x4 &&& (127 : Int32)))), .val (.ref b15), .unset] [(.int E0)]))
    refine own_if_eq X21 hx (pc := 98) (pc' := 123) (hb hby at_98) (by decide) (by decide) (fun hc98 => ?_) (fun hc98 => ?_)
    · show own_G p e below s _ _ _ (T21.setTop (mkF m 123 #[.val (.int x0), .val (.int x1), .val (.int x2), .val (.int x3), .val (.int x4), .val (.int (3 : Int32)), .val (.int E0), .val (.int ((E0 + (1 : Int32)) + (x3 &&& (127 : Int32)))), .val (.int ((((E0 + (1 : Int32)) + (x3 &&& (127 : Int32))) + (1 : Int32)) + (x4 &&& (127 : Int32)))), .val (.ref b15), .unset] []))
      refine own_go (fun _ k => XS.iconst X21.here hx rfl (hb hby at_123) k) ?_
      show own_G p e below s _ _ _ (T21.setTop (mkF m 124 #[.val (.int x0), .val (.int x1), .val (.int x2), .val (.int x3), .val (.int x4), .val (.int (3 : Int32)), .val (.int E0), .val (.int ((E0 + (1 : Int32)) + (x3 &&& (127 : Int32)))), .val (.int ((((E0 + (1 : Int32)) + (x3 &&& (127 : Int32))) + (1 : Int32)) + (x4 &&& (127 : Int32)))), .val (.ref b15), .unset] [(.int (1 : Int32))]))
      refine own_go (fun _ k => XS.goto X21.here hx rfl (pc0 := 124) (pc' := 128) rfl (hb hby at_124) (by decide) (by decide) k) ?_
      show own_G p e below s _ _ _ (T21.setTop (mkF m 128 #[.val (.int x0), .val (.int x1), .val (.int x2), .val (.int x3), .val (.int x4), .val (.int (3 : Int32)), .val (.int E0), .val (.int ((E0 + (1 : Int32)) + (x3 &&& (127 : Int32)))), .val (.int ((((E0 + (1 : Int32)) + (x3 &&& (127 : Int32))) + (1 : Int32)) + (x4 &&& (127 : Int32)))), .val (.ref b15), .unset] [(.int (1 : Int32))]))
      refine own_go (fun _ k => XS.istore X21.here hx rfl (hb hby at_128) rfl (l' := #[.val (.int x0), .val (.int x1), .val (.int x2), .val (.int x3), .val (.int x4), .val (.int (3 : Int32)), .val (.int E0), .val (.int ((E0 + (1 : Int32)) + (x3 &&& (127 : Int32)))), .val (.int ((((E0 + (1 : Int32)) + (x3 &&& (127 : Int32))) + (1 : Int32)) + (x4 &&& (127 : Int32)))), .val (.ref b15), .val (.int (1 : Int32))]) rfl k) ?_
      show own_G p e below s _ _ _ (T21.setTop (mkF m 130 #[.val (.int x0), .val (.int x1), .val (.int x2), .val (.int x3), .val (.int x4), .val (.int (3 : Int32)), .val (.int E0), .val (.int ((E0 + (1 : Int32)) + (x3 &&& (127 : Int32)))), .val (.int ((((E0 + (1 : Int32)) + (x3 &&& (127 : Int32))) + (1 : Int32)) + (x4 &&& (127 : Int32)))), .val (.ref b15), .val (.int (1 : Int32))] []))
      refine own_go (fun _ k => XS.aload X21.here hx rfl (hb hby at_130) rfl rfl k) ?_
      show own_G p e below s _ _ _ (T21.setTop (mkF m 132 #[.val (.int x0), .val (.int x1), .val (.int x2), .val (.int x3), .val (.int x4), .val (.int (3 : Int32)), .val (.int E0), .val (.int ((E0 + (1 : Int32)) + (x3 &&& (127 : Int32)))), .val (.int ((((E0 + (1 : Int32)) + (x3 &&& (127 : Int32))) + (1 : Int32)) + (x4 &&& (127 : Int32)))), .val (.ref b15), .val (.int (1 : Int32))] [(.ref b15)]))
      obtain ⟨_, _, ⟨T22, L22, k22, n22⟩, -, X22, ⟨Lc22, hQ22, l22, y22, z22⟩, st22⟩ := Jvm.LawKit.callS X21 hx (y := (⟨"dev/rulebound/RegexProgram", "accepts", "([I)Z"⟩ : MethodName)) hown (mvT hZ (hw _ (List.mem_of_getElem? (i := 1) rfl))) (mvT hZ (hw _ (List.mem_of_getElem? (i := 2) rfl))) (mvT hZ (hw _ (List.mem_of_getElem? (i := 3) rfl))) (mvT hZ (hw _ (List.mem_of_getElem? (i := 4) rfl))) (by decide) (backOf (W := 0) (rmA1 l Z a0 hw [] b15 k15 (3 : Int32) [(.int E0), (.int ((E0 + (1 : Int32)) + (x3 &&& (127 : Int32)))), (.int ((((E0 + (1 : Int32)) + (x3 &&& (127 : Int32))) + (1 : Int32)) + (x4 &&& (127 : Int32))))] E0 h21 n0 Z21 V21_b15 (by decide) rfl hc98) hZ (hw _ (List.mem_of_getElem? (i := 4) rfl)) (hw _ (List.mem_of_getElem? (i := 3) rfl)) (by decide) (by decide)) (g := (mkF m 132 #[.val (.int x0), .val (.int x1), .val (.int x2), .val (.int x3), .val (.int x4), .val (.int (3 : Int32)), .val (.int E0), .val (.int ((E0 + (1 : Int32)) + (x3 &&& (127 : Int32)))), .val (.int ((((E0 + (1 : Int32)) + (x3 &&& (127 : Int32))) + (1 : Int32)) + (x4 &&& (127 : Int32)))), .val (.ref b15), .val (.int (1 : Int32))] [(.ref b15)])) rfl (by rw [hml]; rfl) (argsL := [(.ref b15)]) (rest := []) (lenOf pd_0 rfl) rfl (by show 2 * 0 + _ ≤ _; exact Nat.le_of_eq rfl) (hb hby at_132) (fun _ _ => ⟨rfl, e21, (by decide : 1 + 0 ≤ _), (by decide : 3 + 0 ≤ _)⟩)
      dsimp only [Pt.U, Pt.locs, Pt.cells, Pt.slots] at X22 l22 y22 z22 st22 hQ22
      subst l22 y22 z22
      obtain ⟨rfl, N22q, e22⟩ := hQ22
      have N22 := Fr.app N21 N22q
      refine own_go st22 ?_
      show own_G p e below s _ _ _ (T22.setTop (mkF m 135 #[.val (.int x0), .val (.int x1), .val (.int x2), .val (.int x3), .val (.int x4), .val (.int (3 : Int32)), .val (.int E0), .val (.int ((E0 + (1 : Int32)) + (x3 &&& (127 : Int32)))), .val (.int ((((E0 + (1 : Int32)) + (x3 &&& (127 : Int32))) + (1 : Int32)) + (x4 &&& (127 : Int32)))), .val (.ref b15), .val (.int (1 : Int32))] [(.int (1 : Int32))]))
      refine own_go (fun _ k => XS.iload X22.here hx rfl (hb hby at_135) rfl k) ?_
      show own_G p e below s _ _ _ (T22.setTop (mkF m 137 #[.val (.int x0), .val (.int x1), .val (.int x2), .val (.int x3), .val (.int x4), .val (.int (3 : Int32)), .val (.int E0), .val (.int ((E0 + (1 : Int32)) + (x3 &&& (127 : Int32)))), .val (.int ((((E0 + (1 : Int32)) + (x3 &&& (127 : Int32))) + (1 : Int32)) + (x4 &&& (127 : Int32)))), .val (.ref b15), .val (.int (1 : Int32))] [(.int (1 : Int32)), (.int (1 : Int32))]))
      refine own_ic_neN X22 hx (pc := 137) (hb hby at_137) (by decide) ?_
      show own_G p e below s _ _ _ (T22.setTop (mkF m 140 #[.val (.int x0), .val (.int x1), .val (.int x2), .val (.int x3), .val (.int x4), .val (.int (3 : Int32)), .val (.int E0), .val (.int ((E0 + (1 : Int32)) + (x3 &&& (127 : Int32)))), .val (.int ((((E0 + (1 : Int32)) + (x3 &&& (127 : Int32))) + (1 : Int32)) + (x4 &&& (127 : Int32)))), .val (.ref b15), .val (.int (1 : Int32))] []))
      refine own_go (fun _ k => XS.iconst X22.here hx rfl (hb hby at_140) k) ?_
      show own_G p e below s _ _ _ (T22.setTop (mkF m 141 #[.val (.int x0), .val (.int x1), .val (.int x2), .val (.int x3), .val (.int x4), .val (.int (3 : Int32)), .val (.int E0), .val (.int ((E0 + (1 : Int32)) + (x3 &&& (127 : Int32)))), .val (.int ((((E0 + (1 : Int32)) + (x3 &&& (127 : Int32))) + (1 : Int32)) + (x4 &&& (127 : Int32)))), .val (.ref b15), .val (.int (1 : Int32))] [(.int (1 : Int32))]))
      refine own_go (fun _ k => XS.goto X22.here hx rfl (pc0 := 141) (pc' := 145) rfl (hb hby at_141) (by decide) (by decide) k) ?_
      show own_G p e below s _ _ _ (T22.setTop (mkF m 145 #[.val (.int x0), .val (.int x1), .val (.int x2), .val (.int x3), .val (.int x4), .val (.int (3 : Int32)), .val (.int E0), .val (.int ((E0 + (1 : Int32)) + (x3 &&& (127 : Int32)))), .val (.int ((((E0 + (1 : Int32)) + (x3 &&& (127 : Int32))) + (1 : Int32)) + (x4 &&& (127 : Int32)))), .val (.ref b15), .val (.int (1 : Int32))] [(.int (1 : Int32))]))
      exact own_retN (t := .boolean) (ht := by simp) X22 hx Bd.returns (BodyLoose.notSynchronized Bd) (hb hby at_145) e22 ⟨rfl, N22⟩ (by decide) (by decide)
    · show own_G p e below s _ _ _ (T21.setTop (mkF m 101 #[.val (.int x0), .val (.int x1), .val (.int x2), .val (.int x3), .val (.int x4), .val (.int (3 : Int32)), .val (.int E0), .val (.int ((E0 + (1 : Int32)) + (x3 &&& (127 : Int32)))), .val (.int ((((E0 + (1 : Int32)) + (x3 &&& (127 : Int32))) + (1 : Int32)) + (x4 &&& (127 : Int32)))), .val (.ref b15), .unset] []))
      refine own_go (fun _ k => XS.iload X21.here hx rfl (hb hby at_101) rfl k) ?_
      show own_G p e below s _ _ _ (T21.setTop (mkF m 103 #[.val (.int x0), .val (.int x1), .val (.int x2), .val (.int x3), .val (.int x4), .val (.int (3 : Int32)), .val (.int E0), .val (.int ((E0 + (1 : Int32)) + (x3 &&& (127 : Int32)))), .val (.int ((((E0 + (1 : Int32)) + (x3 &&& (127 : Int32))) + (1 : Int32)) + (x4 &&& (127 : Int32)))), .val (.ref b15), .unset] [(.int (3 : Int32))]))
      refine own_go (fun _ k => XS.iconst X21.here hx rfl (hb hby at_103) k) ?_
      show own_G p e below s _ _ _ (T21.setTop (mkF m 104 #[.val (.int x0), .val (.int x1), .val (.int x2), .val (.int x3), .val (.int x4), .val (.int (3 : Int32)), .val (.int E0), .val (.int ((E0 + (1 : Int32)) + (x3 &&& (127 : Int32)))), .val (.int ((((E0 + (1 : Int32)) + (x3 &&& (127 : Int32))) + (1 : Int32)) + (x4 &&& (127 : Int32)))), .val (.ref b15), .unset] [(.int (2 : Int32)), (.int (3 : Int32))]))
      refine own_ic_ltN X21 hx (pc := 104) (hb hby at_104) (by decide) ?_
      show own_G p e below s _ _ _ (T21.setTop (mkF m 107 #[.val (.int x0), .val (.int x1), .val (.int x2), .val (.int x3), .val (.int x4), .val (.int (3 : Int32)), .val (.int E0), .val (.int ((E0 + (1 : Int32)) + (x3 &&& (127 : Int32)))), .val (.int ((((E0 + (1 : Int32)) + (x3 &&& (127 : Int32))) + (1 : Int32)) + (x4 &&& (127 : Int32)))), .val (.ref b15), .unset] []))
      refine own_go (fun _ k => XS.iload X21.here hx rfl (hb hby at_107) rfl k) ?_
      show own_G p e below s _ _ _ (T21.setTop (mkF m 109 #[.val (.int x0), .val (.int x1), .val (.int x2), .val (.int x3), .val (.int x4), .val (.int (3 : Int32)), .val (.int E0), .val (.int ((E0 + (1 : Int32)) + (x3 &&& (127 : Int32)))), .val (.int ((((E0 + (1 : Int32)) + (x3 &&& (127 : Int32))) + (1 : Int32)) + (x4 &&& (127 : Int32)))), .val (.ref b15), .unset] [(.int ((E0 + (1 : Int32)) + (x3 &&& (127 : Int32))))]))
      refine own_if_eqN X21 hx (pc := 109) (hb hby at_109) hE1 ?_
      show own_G p e below s _ _ _ (T21.setTop (mkF m 112 #[.val (.int x0), .val (.int x1), .val (.int x2), .val (.int x3), .val (.int x4), .val (.int (3 : Int32)), .val (.int E0), .val (.int ((E0 + (1 : Int32)) + (x3 &&& (127 : Int32)))), .val (.int ((((E0 + (1 : Int32)) + (x3 &&& (127 : Int32))) + (1 : Int32)) + (x4 &&& (127 : Int32)))), .val (.ref b15), .unset] []))
      refine own_go (fun _ k => XS.iload X21.here hx rfl (hb hby at_112) rfl k) ?_
      show own_G p e below s _ _ _ (T21.setTop (mkF m 114 #[.val (.int x0), .val (.int x1), .val (.int x2), .val (.int x3), .val (.int x4), .val (.int (3 : Int32)), .val (.int E0), .val (.int ((E0 + (1 : Int32)) + (x3 &&& (127 : Int32)))), .val (.int ((((E0 + (1 : Int32)) + (x3 &&& (127 : Int32))) + (1 : Int32)) + (x4 &&& (127 : Int32)))), .val (.ref b15), .unset] [(.int (3 : Int32))]))
      refine own_go (fun _ k => XS.iconst X21.here hx rfl (hb hby at_114) k) ?_
      show own_G p e below s _ _ _ (T21.setTop (mkF m 115 #[.val (.int x0), .val (.int x1), .val (.int x2), .val (.int x3), .val (.int x4), .val (.int (3 : Int32)), .val (.int E0), .val (.int ((E0 + (1 : Int32)) + (x3 &&& (127 : Int32)))), .val (.int ((((E0 + (1 : Int32)) + (x3 &&& (127 : Int32))) + (1 : Int32)) + (x4 &&& (127 : Int32)))), .val (.ref b15), .unset] [(.int (3 : Int32)), (.int (3 : Int32))]))
      refine own_ic_ltN X21 hx (pc := 115) (hb hby at_115) (by decide) ?_
      show own_G p e below s _ _ _ (T21.setTop (mkF m 118 #[.val (.int x0), .val (.int x1), .val (.int x2), .val (.int x3), .val (.int x4), .val (.int (3 : Int32)), .val (.int E0), .val (.int ((E0 + (1 : Int32)) + (x3 &&& (127 : Int32)))), .val (.int ((((E0 + (1 : Int32)) + (x3 &&& (127 : Int32))) + (1 : Int32)) + (x4 &&& (127 : Int32)))), .val (.ref b15), .unset] []))
      refine own_go (fun _ k => XS.iload X21.here hx rfl (hb hby at_118) rfl k) ?_
      show own_G p e below s _ _ _ (T21.setTop (mkF m 120 #[.val (.int x0), .val (.int x1), .val (.int x2), .val (.int x3), .val (.int x4), .val (.int (3 : Int32)), .val (.int E0), .val (.int ((E0 + (1 : Int32)) + (x3 &&& (127 : Int32)))), .val (.int ((((E0 + (1 : Int32)) + (x3 &&& (127 : Int32))) + (1 : Int32)) + (x4 &&& (127 : Int32)))), .val (.ref b15), .unset] [(.int ((((E0 + (1 : Int32)) + (x3 &&& (127 : Int32))) + (1 : Int32)) + (x4 &&& (127 : Int32))))]))
      refine own_if_neY X21 hx (pc := 120) (pc' := 127) (hb hby at_120) (by decide) (by decide) hE2 ?_
      show own_G p e below s _ _ _ (T21.setTop (mkF m 127 #[.val (.int x0), .val (.int x1), .val (.int x2), .val (.int x3), .val (.int x4), .val (.int (3 : Int32)), .val (.int E0), .val (.int ((E0 + (1 : Int32)) + (x3 &&& (127 : Int32)))), .val (.int ((((E0 + (1 : Int32)) + (x3 &&& (127 : Int32))) + (1 : Int32)) + (x4 &&& (127 : Int32)))), .val (.ref b15), .unset] []))
      refine own_go (fun _ k => XS.iconst X21.here hx rfl (hb hby at_127) k) ?_
      show own_G p e below s _ _ _ (T21.setTop (mkF m 128 #[.val (.int x0), .val (.int x1), .val (.int x2), .val (.int x3), .val (.int x4), .val (.int (3 : Int32)), .val (.int E0), .val (.int ((E0 + (1 : Int32)) + (x3 &&& (127 : Int32)))), .val (.int ((((E0 + (1 : Int32)) + (x3 &&& (127 : Int32))) + (1 : Int32)) + (x4 &&& (127 : Int32)))), .val (.ref b15), .unset] [(.int (0 : Int32))]))
      refine own_go (fun _ k => XS.istore X21.here hx rfl (hb hby at_128) rfl (l' := #[.val (.int x0), .val (.int x1), .val (.int x2), .val (.int x3), .val (.int x4), .val (.int (3 : Int32)), .val (.int E0), .val (.int ((E0 + (1 : Int32)) + (x3 &&& (127 : Int32)))), .val (.int ((((E0 + (1 : Int32)) + (x3 &&& (127 : Int32))) + (1 : Int32)) + (x4 &&& (127 : Int32)))), .val (.ref b15), .val (.int (0 : Int32))]) rfl k) ?_
      show own_G p e below s _ _ _ (T21.setTop (mkF m 130 #[.val (.int x0), .val (.int x1), .val (.int x2), .val (.int x3), .val (.int x4), .val (.int (3 : Int32)), .val (.int E0), .val (.int ((E0 + (1 : Int32)) + (x3 &&& (127 : Int32)))), .val (.int ((((E0 + (1 : Int32)) + (x3 &&& (127 : Int32))) + (1 : Int32)) + (x4 &&& (127 : Int32)))), .val (.ref b15), .val (.int (0 : Int32))] []))
      refine own_go (fun _ k => XS.aload X21.here hx rfl (hb hby at_130) rfl rfl k) ?_
      show own_G p e below s _ _ _ (T21.setTop (mkF m 132 #[.val (.int x0), .val (.int x1), .val (.int x2), .val (.int x3), .val (.int x4), .val (.int (3 : Int32)), .val (.int E0), .val (.int ((E0 + (1 : Int32)) + (x3 &&& (127 : Int32)))), .val (.int ((((E0 + (1 : Int32)) + (x3 &&& (127 : Int32))) + (1 : Int32)) + (x4 &&& (127 : Int32)))), .val (.ref b15), .val (.int (0 : Int32))] [(.ref b15)]))
      obtain ⟨_, _, ⟨T23, L23, k23, n23⟩, -, X23, ⟨Lc23, hQ23, l23, y23, z23⟩, st23⟩ := Jvm.LawKit.callS X21 hx (y := (⟨"dev/rulebound/RegexProgram", "accepts", "([I)Z"⟩ : MethodName)) hown (mvT hZ (hw _ (List.mem_of_getElem? (i := 1) rfl))) (mvT hZ (hw _ (List.mem_of_getElem? (i := 2) rfl))) (mvT hZ (hw _ (List.mem_of_getElem? (i := 3) rfl))) (mvT hZ (hw _ (List.mem_of_getElem? (i := 4) rfl))) (by decide) (backOf (W := 0) (rmA2 l Z a0 hw [] b15 k15 (3 : Int32) [(.int E0), (.int ((E0 + (1 : Int32)) + (x3 &&& (127 : Int32)))), (.int ((((E0 + (1 : Int32)) + (x3 &&& (127 : Int32))) + (1 : Int32)) + (x4 &&& (127 : Int32))))] E0 h21 n0 Z21 V21_b15 (by decide) rfl hc98) hZ (hw _ (List.mem_of_getElem? (i := 4) rfl)) (hw _ (List.mem_of_getElem? (i := 3) rfl)) (by decide) (by decide)) (g := (mkF m 132 #[.val (.int x0), .val (.int x1), .val (.int x2), .val (.int x3), .val (.int x4), .val (.int (3 : Int32)), .val (.int E0), .val (.int ((E0 + (1 : Int32)) + (x3 &&& (127 : Int32)))), .val (.int ((((E0 + (1 : Int32)) + (x3 &&& (127 : Int32))) + (1 : Int32)) + (x4 &&& (127 : Int32)))), .val (.ref b15), .val (.int (0 : Int32))] [(.ref b15)])) rfl (by rw [hml]; rfl) (argsL := [(.ref b15)]) (rest := []) (lenOf pd_0 rfl) rfl (by show 2 * 0 + _ ≤ _; exact Nat.le_of_eq rfl) (hb hby at_132) (fun _ _ => ⟨rfl, e21, (by decide : 1 + 0 ≤ _), (by decide : 3 + 0 ≤ _)⟩)
      dsimp only [Pt.U, Pt.locs, Pt.cells, Pt.slots] at X23 l23 y23 z23 st23 hQ23
      subst l23 y23 z23
      obtain ⟨rfl, N23q, e23⟩ := hQ23
      have N23 := Fr.app N21 N23q
      refine own_go st23 ?_
      show own_G p e below s _ _ _ (T23.setTop (mkF m 135 #[.val (.int x0), .val (.int x1), .val (.int x2), .val (.int x3), .val (.int x4), .val (.int (3 : Int32)), .val (.int E0), .val (.int ((E0 + (1 : Int32)) + (x3 &&& (127 : Int32)))), .val (.int ((((E0 + (1 : Int32)) + (x3 &&& (127 : Int32))) + (1 : Int32)) + (x4 &&& (127 : Int32)))), .val (.ref b15), .val (.int (0 : Int32))] [(.int (0 : Int32))]))
      refine own_go (fun _ k => XS.iload X23.here hx rfl (hb hby at_135) rfl k) ?_
      show own_G p e below s _ _ _ (T23.setTop (mkF m 137 #[.val (.int x0), .val (.int x1), .val (.int x2), .val (.int x3), .val (.int x4), .val (.int (3 : Int32)), .val (.int E0), .val (.int ((E0 + (1 : Int32)) + (x3 &&& (127 : Int32)))), .val (.int ((((E0 + (1 : Int32)) + (x3 &&& (127 : Int32))) + (1 : Int32)) + (x4 &&& (127 : Int32)))), .val (.ref b15), .val (.int (0 : Int32))] [(.int (0 : Int32)), (.int (0 : Int32))]))
      refine own_ic_neN X23 hx (pc := 137) (hb hby at_137) (by decide) ?_
      show own_G p e below s _ _ _ (T23.setTop (mkF m 140 #[.val (.int x0), .val (.int x1), .val (.int x2), .val (.int x3), .val (.int x4), .val (.int (3 : Int32)), .val (.int E0), .val (.int ((E0 + (1 : Int32)) + (x3 &&& (127 : Int32)))), .val (.int ((((E0 + (1 : Int32)) + (x3 &&& (127 : Int32))) + (1 : Int32)) + (x4 &&& (127 : Int32)))), .val (.ref b15), .val (.int (0 : Int32))] []))
      refine own_go (fun _ k => XS.iconst X23.here hx rfl (hb hby at_140) k) ?_
      show own_G p e below s _ _ _ (T23.setTop (mkF m 141 #[.val (.int x0), .val (.int x1), .val (.int x2), .val (.int x3), .val (.int x4), .val (.int (3 : Int32)), .val (.int E0), .val (.int ((E0 + (1 : Int32)) + (x3 &&& (127 : Int32)))), .val (.int ((((E0 + (1 : Int32)) + (x3 &&& (127 : Int32))) + (1 : Int32)) + (x4 &&& (127 : Int32)))), .val (.ref b15), .val (.int (0 : Int32))] [(.int (1 : Int32))]))
      refine own_go (fun _ k => XS.goto X23.here hx rfl (pc0 := 141) (pc' := 145) rfl (hb hby at_141) (by decide) (by decide) k) ?_
      show own_G p e below s _ _ _ (T23.setTop (mkF m 145 #[.val (.int x0), .val (.int x1), .val (.int x2), .val (.int x3), .val (.int x4), .val (.int (3 : Int32)), .val (.int E0), .val (.int ((E0 + (1 : Int32)) + (x3 &&& (127 : Int32)))), .val (.int ((((E0 + (1 : Int32)) + (x3 &&& (127 : Int32))) + (1 : Int32)) + (x4 &&& (127 : Int32)))), .val (.ref b15), .val (.int (0 : Int32))] [(.int (1 : Int32))]))
      exact own_retN (t := .boolean) (ht := by simp) X23 hx Bd.returns (BodyLoose.notSynchronized Bd) (hb hby at_145) e23 ⟨rfl, N23⟩ (by decide) (by decide)
set_option maxRecDepth 65536 in
set_option maxHeartbeats 40000000 in
theorem comes_1 {Post : Tables → Env → Array Value → State → Outcome → State → Prop} (hpost : ∀ tb e args s v u, (limb_1_1.after args s (.returned v) u = true ∧ limb_1_2.after args s (.returned v) u = true ∧ True) → FrameEnd s (.returned v) u (Jvm.fieldLocs frame_1_writes args s ++ Jvm.arrayLocs frame_1_arrays args s ++ Jvm.staticLocs frame_1_statics s) 16 128 → Post tb e args s (.returned v) u) :
    ArmFor flags0 classFile x code maxLocals ret World_1 tables_1 room_1 Calls_1 rest_1 Pre_1 Post := by
  intro l hfl _ _ p e ha hc hk s m args below hf hA hF happ hP
  obtain ⟨hcalls, hrest, hpre⟩ := hP
  obtain ⟨-, -, -, hnamed, -, -, -, hat⟩ := (Spec.applies_iff hf).mp happ
  obtain ⟨hg, hn⟩ := and_e (Cond.before_iff.mp (show (Jvm.Cond.and given_1 narrow_1).before args s = true from hpre))
  obtain ⟨hct, hr0⟩ := and_e hg
  obtain ⟨hv0, hr1⟩ := and_e hr0
  obtain ⟨hv1, hr2⟩ := and_e hr1
  obtain ⟨hv2, hr3⟩ := and_e hr2
  obtain ⟨hv3, hr4⟩ := and_e hr3
  obtain ⟨w0, w1, w2, w3, w4, rfl⟩ : ∃ w0 w1 w2 w3 w4 : Value, args = #[w0, w1, w2, w3, w4] := by
    have hs : args.size = 5 := by simpa [Cond.value, given_1] using hct
    obtain ⟨L⟩ := args
    match L, hs with
    | [w0, w1, w2, w3, w4], _ => exact ⟨w0, w1, w2, w3, w4, rfl⟩
  have hw := fun d (hd : d ∈ tables_1) => atoms_spec (ws := Jvm.Cond.code x code maxLocals ret :: tables_1) hat d (List.mem_cons_of_mem _ hd)
  have hfit : Fit s := fun {y c} hc i hi => by
    obtain ⟨ha, rfl⟩ := Array.getElem?_eq_some_iff.mp hc
    have q := List.all_eq_true.mp ((Array.all_eq_true_iff_forall_mem.mp hF) _ (Array.getElem_mem ha)) i (List.mem_range.mpr hi)
    simpa [Array.getElem?_eq_getElem hi] using q
  obtain ⟨i0, ei0⟩ := is_v hv0
  obtain rfl : w0 = (.int i0) := Option.some.inj ei0
  obtain ⟨i1, ei1⟩ := is_v hv1
  obtain rfl : w1 = (.int i1) := Option.some.inj ei1
  obtain ⟨i2, ei2⟩ := is_v hv2
  obtain rfl : w2 = (.int i2) := Option.some.inj ei2
  obtain ⟨i3, ei3⟩ := is_v hv3
  obtain rfl : w3 = (.int i3) := Option.some.inj ei3
  obtain ⟨i4, ei4⟩ := is_v hr4
  obtain rfl : w4 = (.int i4) := Option.some.inj ei4
  obtain ⟨n, o, h1, h2, h3, _, L, rfl, ⟨rfl, N⟩, hq⟩ := rm0 l s _ hw tables_1 i0 i1 i2 i3 i4 s.heap s.heap.size (Nat.le_refl _)  p e ha hc hk s m _ below hf ((Spec.applies_iff_loose hf).mp happ).1 ⟨rfl, State.Warmed39.refl s, rfl⟩ trivial
  refine ⟨n, _, h1, h2, h3, hpost _ _ _ _ _ _ ⟨Cond.after_iff.mpr rfl, Cond.after_iff.mpr (eq_i res_at (Term.int_eval (1)) rfl), trivial⟩ ⟨hq.1, hq.2.1, (hq.2.2.sift fun y hy => Or.inr (N y hy)).mono (by decide) (by decide)⟩⟩
theorem main_1_1 : Claimed_1_1 := comes_1 fun _ _ _ _ _ _ h hF => ⟨h.1, hF⟩
theorem main_1_2 : Claimed_1_2 := comes_1 fun _ _ _ _ _ _ h hF => ⟨h.2.1, hF⟩
end Jvm.Pilot.@@N@@
namespace Jvm.Pilot.@@N@@
open Jvm Jvm.ClassFile Sem Op Lib Jvm.Free Jvm.Stand Jvm.Pilot.@@N@@.Jvm.D
/-! MADE BY PROGRAM (witnessworld.py) out of the Statement's table words and the real class files: 9 classes; the members and pool entries that the words name. The judged class is class 1, her method 1. -/
namespace start1
open Jvm.ClassFile
def u (s : String) : CpInfo := .utf8 (stringToUtf16 s)
/-- a pool by its gaps: so many unusable entries, then the entry; so many at the end -/
def gap : Nat → List CpInfo → List CpInfo
  | 0, r => r
  | n + 1, r => .unusable :: gap n r
def poolList (es : List (Nat × CpInfo)) (last : Nat) : List CpInfo := es.foldr (fun e r => gap e.1 (e.2 :: r)) (gap last [])
def pool (es : List (Nat × CpInfo)) (last : Nat) : Array CpInfo := ⟨poolList es last⟩
def fileOf (pool : Array CpInfo) (this : Nat) (attrs : Array Attribute := #[]) (ms : Array MethodInfo := #[]) (fl : Nat := 33) (sup : Nat := 0) (ifs : Array Nat := #[]) (fds : Array FieldInfo := #[]) : ClassFile where
  minorVersion := 0
  majorVersion := 65
  constantPool := pool
  accessFlags := fl
  thisClass := this
  superClass := sup
  interfaces := ifs
  fields := fds
  methods := ms
  attributes := attrs
def plain (name : String) (sup : Option ClassId) : Class where
  name := name
  kind := .ordinary
  loader := none
  accessFlags := 33
  super := sup
  interfaces := #[]
  cf := none
  fields := #[]
  methods := #[]
  instanceTypes := #[]
  staticTypes := #[]
  resolved := #[]
  callSites := []
  init := .initialized
  statics := none
  mirror := none

def pool0 : Array CpInfo := pool [(5, u "<init>"), (0, u "()V"), (1, .class_ 10), (1, u "java/lang/Object")] 113

def k0m0 : Method := { name := "<init>", desc := "()V", sig := { parameters := [], returnType := none }, accessFlags := 1, code := none }
/-- java/lang/Object -/
def k0 : Class := { plain "java/lang/Object" none with
  accessFlags := 33
  interfaces := #[]
  cf := some (fileOf pool0 8 #[] #[{ accessFlags := 1, nameIndex := 5, descriptorIndex := 6, attributes := #[] }] 33 0 #[] #[])
  fields := #[]
  methods := #[k0m0]
  instanceTypes := #[]
  staticTypes := #[]
  resolved := Array.replicate 124 none
  statics := none }

def pool1 : Array CpInfo := pool [(2, .class_ 4), (1, u "java/lang/Object"), (0, u "<init>"), (0, u "()V"), (0, .integer 2147483647), (0, .methodref 9 10), (0, .class_ 11), (0, .nameAndType 12 13), (0, u "dev/rulebound/RegexProgram"), (0, u "accepts"), (0, u "([I)Z"), (0, .class_ 15), (0, u "dev/rulebound/RegexProgramAcceptsPinLaw"), (2, u "law"), (0, u "(IIIII)Z")] 5

def k1m0 : Method := { name := "<init>", desc := "()V", sig := { parameters := [], returnType := none }, accessFlags := 1, code := none }
def k1c1 : Code := { maxStack := 3, maxLocals := 11, code := code, exceptionTable := #[], attributes := #[] }
def k1m1 : Method := { name := "law", desc := "(IIIII)Z", sig := { parameters := [.int, .int, .int, .int, .int], returnType := some .boolean }, accessFlags := 9, code := some k1c1 }
/-- dev/rulebound/RegexProgramAcceptsPinLaw -/
def k1 : Class := { plain "dev/rulebound/RegexProgramAcceptsPinLaw" (some 0) with
  accessFlags := 49
  interfaces := #[]
  cf := some (fileOf pool1 14 #[] #[{ accessFlags := 1, nameIndex := 5, descriptorIndex := 6, attributes := #[] }, { accessFlags := 9, nameIndex := 18, descriptorIndex := 19, attributes := #[] }] 49 2 #[] #[])
  fields := #[]
  methods := #[k1m0, k1m1]
  instanceTypes := #[]
  staticTypes := #[]
  resolved := Array.replicate 25 none
  statics := none }

def pool2 : Array CpInfo := pool [(2, .class_ 4), (1, u "java/lang/Object"), (2, .class_ 8), (0, u "dev/rulebound/RegexProgram$Builder"), (3, .class_ 13), (0, u "dev/rulebound/RegexProgram"), (10, u "start"), (0, u "I"), (2, u "kinds"), (0, u "[I"), (3, u "nexts"), (3, u "arguments"), (3, u "sets"), (11, u "[Ldev/rulebound/CodePointSet;"), (10, u "checks"), (0, u "Z"), (6, u "asciiClasses"), (30, u "asciiClassCount"), (40, .class_ 145), (0, u "dev/rulebound/RegexProgram$Stepper"), (73, u "INPUT_START"), (2, u "INPUT_END"), (1, u "FINAL_END"), (1, u "FINAL_END_UNIX"), (1, u "LINE_START"), (1, u "LINE_START_UNIX"), (1, u "LINE_END"), (1, u "LINE_END_UNIX"), (1, u "MAX_INSTRUCTIONS"), (1, u "MAX_ASKED_SETS"), (0, u "TAKE"), (1, u "FORK"), (0, u "CHECK"), (0, u "ACCEPT"), (1, u "ACCEPTING"), (11, u "accepts"), (0, u "([I)Z")] 55

def k2c0 : Code := { maxStack := 2, maxLocals := 1, code := prog_17_method_6_code, exceptionTable := #[], attributes := #[] }
def k2m0 : Method := { name := "accepts", desc := "([I)Z", sig := { parameters := [(.array .int)], returnType := some .boolean }, accessFlags := 8, code := some k2c0 }
/-- dev/rulebound/RegexProgram -/
def k2 : Class := { plain "dev/rulebound/RegexProgram" (some 0) with
  accessFlags := 48
  interfaces := #[]
  cf := some (fileOf pool2 12 #[.nestMembers #[144, 7]] #[{ accessFlags := 8, nameIndex := 257, descriptorIndex := 258, attributes := #[] }] 48 2 #[] #[{ accessFlags := 24, nameIndex := 219, descriptorIndex := 25, attributes := #[] }, { accessFlags := 24, nameIndex := 222, descriptorIndex := 25, attributes := #[] }, { accessFlags := 24, nameIndex := 224, descriptorIndex := 25, attributes := #[] }, { accessFlags := 24, nameIndex := 226, descriptorIndex := 25, attributes := #[] }, { accessFlags := 24, nameIndex := 228, descriptorIndex := 25, attributes := #[] }, { accessFlags := 24, nameIndex := 230, descriptorIndex := 25, attributes := #[] }, { accessFlags := 24, nameIndex := 232, descriptorIndex := 25, attributes := #[] }, { accessFlags := 24, nameIndex := 234, descriptorIndex := 25, attributes := #[] }, { accessFlags := 24, nameIndex := 236, descriptorIndex := 25, attributes := #[] }, { accessFlags := 24, nameIndex := 238, descriptorIndex := 25, attributes := #[] }, { accessFlags := 26, nameIndex := 239, descriptorIndex := 25, attributes := #[] }, { accessFlags := 26, nameIndex := 241, descriptorIndex := 25, attributes := #[] }, { accessFlags := 26, nameIndex := 242, descriptorIndex := 25, attributes := #[] }, { accessFlags := 26, nameIndex := 243, descriptorIndex := 25, attributes := #[] }, { accessFlags := 26, nameIndex := 245, descriptorIndex := 25, attributes := #[] }, { accessFlags := 18, nameIndex := 28, descriptorIndex := 29, attributes := #[] }, { accessFlags := 18, nameIndex := 33, descriptorIndex := 29, attributes := #[] }, { accessFlags := 18, nameIndex := 37, descriptorIndex := 29, attributes := #[] }, { accessFlags := 18, nameIndex := 41, descriptorIndex := 53, attributes := #[] }, { accessFlags := 18, nameIndex := 24, descriptorIndex := 25, attributes := #[] }, { accessFlags := 18, nameIndex := 64, descriptorIndex := 65, attributes := #[] }, { accessFlags := 18, nameIndex := 72, descriptorIndex := 29, attributes := #[] }, { accessFlags := 18, nameIndex := 103, descriptorIndex := 25, attributes := #[] }])
  fields := #[{ name := "INPUT_START", type := .int, accessFlags := 24, slot := 0, constantValue := 0 }, { name := "INPUT_END", type := .int, accessFlags := 24, slot := 1, constantValue := 0 }, { name := "FINAL_END", type := .int, accessFlags := 24, slot := 2, constantValue := 0 }, { name := "FINAL_END_UNIX", type := .int, accessFlags := 24, slot := 3, constantValue := 0 }, { name := "LINE_START", type := .int, accessFlags := 24, slot := 4, constantValue := 0 }, { name := "LINE_START_UNIX", type := .int, accessFlags := 24, slot := 5, constantValue := 0 }, { name := "LINE_END", type := .int, accessFlags := 24, slot := 6, constantValue := 0 }, { name := "LINE_END_UNIX", type := .int, accessFlags := 24, slot := 7, constantValue := 0 }, { name := "MAX_INSTRUCTIONS", type := .int, accessFlags := 24, slot := 8, constantValue := 0 }, { name := "MAX_ASKED_SETS", type := .int, accessFlags := 24, slot := 9, constantValue := 0 }, { name := "TAKE", type := .int, accessFlags := 26, slot := 10, constantValue := 0 }, { name := "FORK", type := .int, accessFlags := 26, slot := 11, constantValue := 0 }, { name := "CHECK", type := .int, accessFlags := 26, slot := 12, constantValue := 0 }, { name := "ACCEPT", type := .int, accessFlags := 26, slot := 13, constantValue := 0 }, { name := "ACCEPTING", type := .int, accessFlags := 26, slot := 14, constantValue := 0 }, { name := "kinds", type := (.array .int), accessFlags := 18, slot := 0, constantValue := 0 }, { name := "nexts", type := (.array .int), accessFlags := 18, slot := 1, constantValue := 0 }, { name := "arguments", type := (.array .int), accessFlags := 18, slot := 2, constantValue := 0 }, { name := "sets", type := (.array (.object "dev/rulebound/CodePointSet")), accessFlags := 18, slot := 3, constantValue := 0 }, { name := "start", type := .int, accessFlags := 18, slot := 4, constantValue := 0 }, { name := "checks", type := .boolean, accessFlags := 18, slot := 5, constantValue := 0 }, { name := "asciiClasses", type := (.array .int), accessFlags := 18, slot := 6, constantValue := 0 }, { name := "asciiClassCount", type := .int, accessFlags := 18, slot := 7, constantValue := 0 }]
  methods := #[k2m0]
  instanceTypes := #[(.array .int), (.array .int), (.array .int), (.array (.object "dev/rulebound/CodePointSet")), .int, .boolean, (.array .int), .int]
  staticTypes := #[.int, .int, .int, .int, .int, .int, .int, .int, .int, .int, .int, .int, .int, .int, .int]
  resolved := Array.replicate 314 none
  statics := none }

def pool3 : Array CpInfo := pool [(1, u "java/lang/Cloneable"), (0, .class_ 1), (0, u "java/lang/Object"), (0, .class_ 3)] 3

/-- java/lang/Cloneable -/
def k3 : Class := { plain "java/lang/Cloneable" (some 0) with
  accessFlags := 1537
  interfaces := #[]
  cf := some (fileOf pool3 2 #[] #[] 1537 4 #[] #[])
  fields := #[]
  methods := #[]
  instanceTypes := #[]
  staticTypes := #[]
  resolved := Array.replicate 8 none
  statics := none }

def pool4 : Array CpInfo := pool [(1, u "java/io/Serializable"), (0, .class_ 1), (0, u "java/lang/Object"), (0, .class_ 3)] 3

/-- java/io/Serializable -/
def k4 : Class := { plain "java/io/Serializable" (some 0) with
  accessFlags := 1537
  interfaces := #[]
  cf := some (fileOf pool4 2 #[] #[] 1537 4 #[] #[])
  fields := #[]
  methods := #[]
  instanceTypes := #[]
  staticTypes := #[]
  resolved := Array.replicate 8 none
  statics := none }

/-- the primitive byte -/
def k5 : Class := { plain "byte" none with kind := .primitive 'B', accessFlags := 0x411 }
/-- [B -/
def k6 : Class := { plain "[B" (some 0) with kind := .array 5 .byte, interfaces := #[3, 4], accessFlags := 1041 }

/-- the primitive int -/
def k7 : Class := { plain "int" none with kind := .primitive 'I', accessFlags := 0x411 }
/-- [I -/
def k8 : Class := { plain "[I" (some 0) with kind := .array 7 .int, interfaces := #[3, 4], accessFlags := 1041 }

def heap : Heap := #[]
def classes : Array Class := #[k0, k1, k2, k3, k4, k5, k6, k7, k8]
def interned : List (Array UInt16 × Addr) := []
def slotsUsed : Nat := 0
def theMethod : MethodId := ⟨1, 1⟩
def args0 : Array Value := #[.int 2, .int 0, .int 7, .int 1, .int 2]
def aboutOver (below : List Frame) : State where
  vm := { classes := classes, interned := interned.toArray }
  heap := heap
  slotsUsed := slotsUsed
  threads := #[{ frames := .invoking theMethod args0 :: below }]
def below0 : List Frame := [.native { method := ⟨0, 0⟩, args := #[] }]
def about1 : State := aboutOver below0
def p0 : Program := .bare "" "" ""
def e0 : Env := launch0.env 0 0 0
theorem w_frames : about1.frames = Frame.invoking theMethod args0 :: below0 := rfl
set_option maxRecDepth 65536 in
theorem w_args : argsFit about1.vm theMethod args0 = true := by decide +kernel
set_option maxRecDepth 65536 in
theorem w_heap : heapFits about1 = true := by decide +kernel
set_option maxRecDepth 65536 in
theorem w_runnable : about1.curStatus? = some .runnable := by decide +kernel
set_option maxRecDepth 65536 in
theorem w_alone : about1.alone = true := by decide +kernel
set_option maxRecDepth 65536 in
theorem w_named : about1.methodNamed? x = some theMethod := by decide +kernel
set_option maxRecDepth 65536 in
theorem w_hears : about1.hears theMethod below0 = true := by decide +kernel
set_option maxRecDepth 65536 in
theorem w_ripe : about1.ripe theMethod args0 below0 = true := by decide +kernel
theorem w_running : about1.status = .running := rfl
set_option maxRecDepth 65536 in
theorem w_room : about1.hasRoom e0.platform room_1 = true :=
  launch0.hasRoom_least _ room_1 (by decide +kernel) (by decide +kernel) (by decide +kernel) (by decide +kernel) (by decide +kernel) (by decide +kernel)
theorem allAtoms_all (ts : List Jvm.Cond) (a : Array Jvm.Value) (st : Jvm.State) : (allAtoms ts).before a st = ts.all (fun c => c.before a st) := by
  induction ts with
  | nil => rfl
  | cons c t ih =>
    show (Jvm.Cond.and c (allAtoms t)).before a st = _
    rw [Jvm.Cond.before_and, ih, List.all_cons]
def words1 : List Jvm.Cond := Jvm.Cond.code x code maxLocals ret :: tables_1
/-- a 'code' word, met by the world's own term for the bytes: nothing is compared byte by byte -/
theorem code_word {y : MethodName} {bytes : ByteArray} {mx : Nat} {rt : Option FieldType} {a : Array Value} {s : State} {m : MethodId} {meth : Method} {c : Code} (h1 : s.methodNamed? y = some m) (h2 : s.vm.method? m = some meth) (h3 : meth.code = some c) (h4 : c.code = bytes)
    (h5 : (c.maxLocals == mx && c.exceptionTable.isEmpty && decide (c.maxStack ≤ mostOperands) && decide (meth.sig.returnType = rt) && !meth.locks && decide (parseMethodDescriptor y.desc = some meth.sig)) = true) : (Jvm.Cond.code y bytes mx rt).before a s = true := by
  simp only [Bool.and_eq_true, beq_iff_eq, Bool.not_eq_true', decide_eq_true_eq] at h5
  obtain ⟨⟨⟨⟨⟨g1, g2⟩, g3⟩, g4⟩, g5⟩, g6⟩ := h5
  simp [Cond.before, Cond.holds, Cond.value, h1, h2, h3, h4, g1, g2, g3, g4, g5, g6]
def isCode : Jvm.Cond → Bool
  | .code _ _ _ _ => true
  | _ => false
theorem all_split {L : List Jvm.Cond} {P : Jvm.Cond → Bool} (h1 : L.all (fun c => isCode c || P c) = true) (h2 : ∀ c ∈ L.filter isCode, P c = true) : L.all P = true := by
  refine List.all_eq_true.mpr fun c hc => ?_
  have h := List.all_eq_true.mp h1 c hc
  rcases Bool.eq_false_or_eq_true (isCode c) with hi | hi
  · exact h2 c (List.mem_filter.mpr ⟨hc, hi⟩)
  · simpa [hi] using h
set_option maxRecDepth 65536 in
theorem w_c0 : (Jvm.Cond.code x code maxLocals ret).before args0 about1 = true := code_word (m := ⟨1, 1⟩) (meth := k1m1) (c := k1c1) (by decide +kernel) rfl rfl rfl (by decide +kernel)
set_option maxRecDepth 65536 in
theorem w_c1 : (Jvm.Cond.code ({ cls := "dev/rulebound/RegexProgram", name := "accepts", desc := "([I)Z" } : Jvm.MethodName) prog_17_method_6_code (1 : Nat) (Option.some Jvm.ClassFile.FieldType.boolean)).before args0 about1 = true := code_word (m := ⟨2, 0⟩) (meth := k2m0) (c := k2c0) (by decide +kernel) rfl rfl rfl (by decide +kernel)
def codes1 : List Jvm.Cond := [Jvm.Cond.code x code maxLocals ret, Jvm.Cond.code ({ cls := "dev/rulebound/RegexProgram", name := "accepts", desc := "([I)Z" } : Jvm.MethodName) prog_17_method_6_code (1 : Nat) (Option.some Jvm.ClassFile.FieldType.boolean)]
set_option maxRecDepth 65536 in
theorem codes_eq : words1.filter isCode = codes1 := rfl
theorem w_codes : ∀ c ∈ words1.filter isCode, c.before args0 about1 = true := by
  rw [codes_eq]
  intro c hc
  simp only [codes1, List.mem_cons, List.not_mem_nil, or_false] at hc
  rcases hc with rfl | rfl
  · exact w_c0
  · exact w_c1
set_option maxRecDepth 65536 in
theorem w_t1 : words1.all (fun c => isCode c || c.before args0 about1) = true := by decide +kernel
theorem w_tables : (allAtoms (Jvm.Cond.code x code maxLocals ret :: tables_1)).before args0 about1 = true := by
  rw [allAtoms_all]
  show words1.all (fun c => c.before args0 about1) = true
  refine all_split ?_ w_codes
  rw [w_t1]
set_option maxRecDepth 65536 in
theorem w_case : (Jvm.Cond.and given_1 narrow_1).before args0 about1 = true := by decide +kernel
theorem w_applies : (headSpec (Jvm.Cond.code x code maxLocals ret :: tables_1) room_1).applies x e0.platform about1 = true :=
  (Spec.applies_iff w_frames).mpr ⟨w_running, w_runnable, w_alone, w_named, w_hears, w_ripe, w_room, w_tables⟩
theorem atStart : AtStart classFile x code maxLocals ret World_1 tables_1 room_1 Calls_1 rest_1 Pre_1 launch0 p0 e0 about1 theMethod args0 below0 :=
  ⟨lists_1, trivial, launch0.admits_env _ _ _, launch0.least_env, fairChoices_fair.cas, fairChoices_fair.clock, w_frames, w_args, w_heap, w_applies, trivial, trivial, w_case⟩
end start1
theorem witness_1 : WitnessClaimed_1 := ⟨start1.p0, start1.e0, start1.about1, start1.theMethod, start1.args0, start1.below0, start1.atStart⟩
end Jvm.Pilot.@@N@@
