import PyProof.Rows.All
import Wide.All
import OpenK.AllK
import Wide.FinOn
import KE.KUnpack
import PySem.Challenge.RW_uc0008_02
open PySem PySem.W PyProof.Rows PySem.SeqAt
set_option Elab.async false
set_option compiler.extract_closed false
set_option genSizeOf false
set_option genInjectivity false
set_option bootstrap.genMatcherCode false
set_option maxHeartbeats 4000000
set_option linter.unusedVariables false
set_option linter.unusedSimpArgs false
set_option linter.deprecated false
set_option maxRecDepth 100000
namespace Mine
theorem obAE {t0:Sort _} {p0:Prop} {p1:t0→Prop} {b:Prop} (h:p0∧∃ x0,p1 x0) (k:p0→∀ x0,p1 x0→b):b:=by
 obtain ⟨h0,x0,h1⟩:=h
 exact k h0 x0 h1
theorem obEA {t0:Sort _} {p0:t0→Prop} {p1:t0→Prop} {b:Prop} (h : ∃ x0,p0 x0∧p1 x0) (k : ∀ x0,p0 x0→p1 x0→b):b:=by
 obtain ⟨x0,h0,h1⟩:=h
 exact k x0 h0 h1
theorem obEE {t0:Sort _} {t1:Sort _} {p0:t0→t1→Prop} {b:Prop} (h : ∃ x0,∃ x1,p0 x0 x1) (k : ∀ x0,∀ x1,p0 x0 x1→b):b:=by
 obtain ⟨x0,x1,h0⟩:=h
 exact k x0 x1 h0
theorem yd8 {t0:Sort _} {p0:Prop} {p1:t0→Prop} {p2:t0→Prop} {b:Prop} (h:p0∧∃ x0,p1 x0∧p2 x0) (k:p0→∀ x0,p1 x0→p2 x0→b):b:=by
 obtain ⟨h0,x0,h1,h2⟩:=h
 exact k h0 x0 h1 h2
theorem zd4 {t0:Sort _} {p0:t0→Prop} {p1:t0→Prop} {p2:t0→Prop} {b:Prop} (h : ∃ x0,p0 x0∧p1 x0∧p2 x0) (k : ∀ x0,p0 x0→p1 x0→p2 x0→b):b:=by
 obtain ⟨x0,h0,h1,h2⟩:=h
 exact k x0 h0 h1 h2
theorem zc7 {t0:Sort _} {t1:Sort _} {p0:t0→t1→Prop} {p1:t0→t1→Prop} {b:Prop} (h : ∃ x0,∃ x1,p0 x0 x1∧p1 x0 x1) (k : ∀ x0,∀ x1,p0 x0 x1→p1 x0 x1→b):b:=by
 obtain ⟨x0,x1,h0,h1⟩:=h
 exact k x0 x1 h0 h1
theorem zd6 {t0:Sort _} {t1:Sort _} {t2:Sort _} {p0:t0→t1→t2→Prop} {b:Prop} (h : ∃ x0,∃ x1,∃ x2,p0 x0 x1 x2) (k : ∀ x0,∀ x1,∀ x2,p0 x0 x1 x2→b):b:=by
 obtain ⟨x0,x1,x2,h0⟩:=h
 exact k x0 x1 x2 h0
theorem yb6 {t0:Sort _} {p0:Prop} {p1:t0→Prop} {p2:t0→Prop} {p3:t0→Prop} {b:Prop} (h:p0∧∃ x0,p1 x0∧p2 x0∧p3 x0) (k:p0→∀ x0,p1 x0→p2 x0→p3 x0→b):b:=by
 obtain ⟨h0,x0,h1,h2,h3⟩:=h
 exact k h0 x0 h1 h2 h3
theorem yi7 {t0:Sort _} {t1:Sort _} {p0:Prop} {p1:t0→t1→Prop} {p2:t0→t1→Prop} {b:Prop} (h:p0∧∃ x0,∃ x1,p1 x0 x1∧p2 x0 x1) (k:p0→∀ x0,∀ x1,p1 x0 x1→p2 x0 x1→b):b:=by
 obtain ⟨h0,x0,x1,h1,h2⟩:=h
 exact k h0 x0 x1 h1 h2
theorem zf9 {t0:Sort _} {p0:t0→Prop} {p1:t0→Prop} {p2:t0→Prop} {p3:t0→Prop} {b:Prop} (h : ∃ x0,p0 x0∧p1 x0∧p2 x0∧p3 x0) (k : ∀ x0,p0 x0→p1 x0→p2 x0→p3 x0→b):b:=by
 obtain ⟨x0,h0,h1,h2,h3⟩:=h
 exact k x0 h0 h1 h2 h3
theorem zz5 {t0:Sort _} {t1:Sort _} {p0:t0→Prop} {p1:t0→Prop} {p2:t0→t1→Prop} {b:Prop} (h : ∃ x0,p0 x0∧p1 x0∧∃ x1,p2 x0 x1) (k : ∀ x0,p0 x0→p1 x0→∀ x1,p2 x0 x1→b):b:=by
 obtain ⟨x0,h0,h1,x1,h2⟩:=h
 exact k x0 h0 h1 x1 h2
theorem zb2 {t0:Sort _} {t1:Sort _} {p0:t0→t1→Prop} {p1:t0→t1→Prop} {p2:t0→t1→Prop} {b:Prop} (h : ∃ x0,∃ x1,p0 x0 x1∧p1 x0 x1∧p2 x0 x1) (k : ∀ x0,∀ x1,p0 x0 x1→p1 x0 x1→p2 x0 x1→b):b:=by
 obtain ⟨x0,x1,h0,h1,h2⟩:=h
 exact k x0 x1 h0 h1 h2
theorem zd9 {t0:Sort _} {t1:Sort _} {t2:Sort _} {p0:t0→t1→t2→Prop} {p1:t0→t1→t2→Prop} {b:Prop} (h : ∃ x0,∃ x1,∃ x2,p0 x0 x1 x2∧p1 x0 x1 x2) (k : ∀ x0,∀ x1,∀ x2,p0 x0 x1 x2→p1 x0 x1 x2→b):b:=by
 obtain ⟨x0,x1,x2,h0,h1⟩:=h
 exact k x0 x1 x2 h0 h1
theorem zQ1 {t0:Sort _} {t1:Sort _} {p0:Prop} {p1:t0→t1→Prop} {p2:t0→t1→Prop} {p3:t0→t1→Prop} {b:Prop} (h:p0∧∃ x0,∃ x1,p1 x0 x1∧p2 x0 x1∧p3 x0 x1) (k:p0→∀ x0,∀ x1,p1 x0 x1→p2 x0 x1→p3 x0 x1→b):b:=by
 obtain ⟨h0,x0,x1,h1,h2,h3⟩:=h
 exact k h0 x0 x1 h1 h2 h3
theorem zk0 {t0:Sort _} {p0:t0→Prop} {p1:t0→Prop} {p2:t0→Prop} {p3:t0→Prop} {p4:t0→Prop} {b:Prop} (h : ∃ x0,p0 x0∧p1 x0∧p2 x0∧p3 x0∧p4 x0) (k : ∀ x0,p0 x0→p1 x0→p2 x0→p3 x0→p4 x0→b):b:=by
 obtain ⟨x0,h0,h1,h2,h3,h4⟩:=h
 exact k x0 h0 h1 h2 h3 h4
theorem zh7 {t0:Sort _} {t1:Sort _} {p0:t0→t1→Prop} {p1:t0→t1→Prop} {p2:t0→t1→Prop} {p3:t0→t1→Prop} {b:Prop} (h : ∃ x0,∃ x1,p0 x0 x1∧p1 x0 x1∧p2 x0 x1∧p3 x0 x1) (k : ∀ x0,∀ x1,p0 x0 x1→p1 x0 x1→p2 x0 x1→p3 x0 x1→b):b:=by
 obtain ⟨x0,x1,h0,h1,h2,h3⟩:=h
 exact k x0 x1 h0 h1 h2 h3
theorem zE1 {t0:Sort _} {t1:Sort _} {t2:Sort _} {p0:t0→t1→t2→Prop} {p1:t0→t1→t2→Prop} {p2:t0→t1→t2→Prop} {b:Prop} (h : ∃ x0,∃ x1,∃ x2,p0 x0 x1 x2∧p1 x0 x1 x2∧p2 x0 x1 x2) (k : ∀ x0,∀ x1,∀ x2,p0 x0 x1 x2→p1 x0 x1 x2→p2 x0 x1 x2→b):b:=by
 obtain ⟨x0,x1,x2,h0,h1,h2⟩:=h
 exact k x0 x1 x2 h0 h1 h2
theorem zf2 {t0:Sort _} {t1:Sort _} {p0:Prop} {p1:Prop} {p2:t0→t1→Prop} {p3:t0→t1→Prop} {p4:t0→t1→Prop} {b:Prop} (h:p0∧p1∧∃ x0,∃ x1,p2 x0 x1∧p3 x0 x1∧p4 x0 x1) (k:p0→p1→∀ x0,∀ x1,p2 x0 x1→p3 x0 x1→p4 x0 x1→b):b:=by
 obtain ⟨h0,h1,x0,x1,h2,h3,h4⟩:=h
 exact k h0 h1 x0 x1 h2 h3 h4
theorem zc5 {t0:Sort _} {t1:Sort _} {p0:Prop} {p1:t0→t1→Prop} {p2:t0→t1→Prop} {p3:t0→t1→Prop} {p4:t0→t1→Prop} {b:Prop} (h:p0∧∃ x0,∃ x1,p1 x0 x1∧p2 x0 x1∧p3 x0 x1∧p4 x0 x1) (k:p0→∀ x0,∀ x1,p1 x0 x1→p2 x0 x1→p3 x0 x1→p4 x0 x1→b):b:=by
 obtain ⟨h0,x0,x1,h1,h2,h3,h4⟩:=h
 exact k h0 x0 x1 h1 h2 h3 h4
theorem zi4 {t0:Sort _} {t1:Sort _} {p0:t0→t1→Prop} {p1:t0→t1→Prop} {p2:t0→t1→Prop} {p3:t0→t1→Prop} {p4:t0→t1→Prop} {b:Prop} (h : ∃ x0,∃ x1,p0 x0 x1∧p1 x0 x1∧p2 x0 x1∧p3 x0 x1∧p4 x0 x1) (k : ∀ x0,∀ x1,p0 x0 x1→p1 x0 x1→p2 x0 x1→p3 x0 x1→p4 x0 x1→b):b:=by
 obtain ⟨x0,x1,h0,h1,h2,h3,h4⟩:=h
 exact k x0 x1 h0 h1 h2 h3 h4
theorem zX2 {t0:Sort _} {t1:Sort _} {t2:Sort _} {p0:t0→t1→t2→Prop} {p1:t0→t1→t2→Prop} {p2:t0→t1→t2→Prop} {p3:t0→t1→t2→Prop} {b:Prop} (h : ∃ x0,∃ x1,∃ x2,p0 x0 x1 x2∧p1 x0 x1 x2∧p2 x0 x1 x2∧p3 x0 x1 x2) (k : ∀ x0,∀ x1,∀ x2,p0 x0 x1 x2→p1 x0 x1 x2→p2 x0 x1 x2→p3 x0 x1 x2→b):b:=by
 obtain ⟨x0,x1,x2,h0,h1,h2,h3⟩:=h
 exact k x0 x1 x2 h0 h1 h2 h3
theorem zp5 {t0:Sort _} {p0:t0→Prop} {p1:t0→Prop} {p2:t0→Prop} {p3:t0→Prop} {p4:t0→Prop} {p5:t0→Prop} {p6:t0→Prop} {b:Prop} (h : ∃ x0,p0 x0∧p1 x0∧p2 x0∧p3 x0∧p4 x0∧p5 x0∧p6 x0) (k : ∀ x0,p0 x0→p1 x0→p2 x0→p3 x0→p4 x0→p5 x0→p6 x0→b):b:=by
 obtain ⟨x0,h0,h1,h2,h3,h4,h5,h6⟩:=h
 exact k x0 h0 h1 h2 h3 h4 h5 h6
theorem zQ0 {t0:Sort _} {t1:Sort _} {p0:t0→t1→Prop} {p1:t0→t1→Prop} {p2:t0→t1→Prop} {p3:t0→t1→Prop} {p4:t0→t1→Prop} {p5:t0→t1→Prop} {b:Prop} (h : ∃ x0,∃ x1,p0 x0 x1∧p1 x0 x1∧p2 x0 x1∧p3 x0 x1∧p4 x0 x1∧p5 x0 x1) (k : ∀ x0,∀ x1,p0 x0 x1→p1 x0 x1→p2 x0 x1→p3 x0 x1→p4 x0 x1→p5 x0 x1→b):b:=by
 obtain ⟨x0,x1,h0,h1,h2,h3,h4,h5⟩:=h
 exact k x0 x1 h0 h1 h2 h3 h4 h5
theorem zP9 {t0:Sort _} {t1:Sort _} {t2:Sort _} {t3:Sort _} {p0:t0→t1→t2→t3→Prop} {p1:t0→t1→t2→t3→Prop} {p2:t0→t1→t2→t3→Prop} {p3:t0→t1→t2→t3→Prop} {b:Prop} (h : ∃ x0,∃ x1,∃ x2,∃ x3,p0 x0 x1 x2 x3∧p1 x0 x1 x2 x3∧p2 x0 x1 x2 x3∧p3 x0 x1 x2 x3) (k : ∀ x0,∀ x1,∀ x2,∀ x3,p0 x0 x1 x2 x3→p1 x0 x1 x2 x3→p2 x0 x1 x2 x3→p3 x0 x1 x2 x3→b):b:=by
 obtain ⟨x0,x1,x2,x3,h0,h1,h2,h3⟩:=h
 exact k x0 x1 x2 x3 h0 h1 h2 h3
theorem zP8 {t0:Sort _} {t1:Sort _} {t2:Sort _} {t3:Sort _} {t4:Sort _} {p0:t0→t1→t2→t3→t4→Prop} {p1:t0→t1→t2→t3→t4→Prop} {p2:t0→t1→t2→t3→t4→Prop} {b:Prop} (h : ∃ x0,∃ x1,∃ x2,∃ x3,∃ x4,p0 x0 x1 x2 x3 x4∧p1 x0 x1 x2 x3 x4∧p2 x0 x1 x2 x3 x4) (k : ∀ x0,∀ x1,∀ x2,∀ x3,∀ x4,p0 x0 x1 x2 x3 x4→p1 x0 x1 x2 x3 x4→p2 x0 x1 x2 x3 x4→b):b:=by
 obtain ⟨x0,x1,x2,x3,x4,h0,h1,h2⟩:=h
 exact k x0 x1 x2 x3 x4 h0 h1 h2
theorem zm2 {t0:Sort _} {t1:Sort _} {t2:Sort _} {p0:Prop} {p1:t0→t1→t2→Prop} {p2:t0→t1→t2→Prop} {p3:t0→t1→t2→Prop} {p4:t0→t1→t2→Prop} {p5:t0→t1→t2→Prop} {b:Prop} (h:p0∧∃ x0,∃ x1,∃ x2,p1 x0 x1 x2∧p2 x0 x1 x2∧p3 x0 x1 x2∧p4 x0 x1 x2∧p5 x0 x1 x2) (k:p0→∀ x0,∀ x1,∀ x2,p1 x0 x1 x2→p2 x0 x1 x2→p3 x0 x1 x2→p4 x0 x1 x2→p5 x0 x1 x2→b):b:=by
 obtain ⟨h0,x0,x1,x2,h1,h2,h3,h4,h5⟩:=h
 exact k h0 x0 x1 x2 h1 h2 h3 h4 h5
theorem zc0 {t0:Sort _} {t1:Sort _} {t2:Sort _} {t3:Sort _} {p0:t0→t1→Prop} {p1:t0→t1→Prop} {p2:t0→t1→t2→t3→Prop} {p3:t0→t1→t2→t3→Prop} {p4:t0→t1→t2→t3→Prop} {b:Prop} (h : ∃ x0,∃ x1,p0 x0 x1∧p1 x0 x1∧∃ x2,∃ x3,p2 x0 x1 x2 x3∧p3 x0 x1 x2 x3∧p4 x0 x1 x2 x3) (k : ∀ x0,∀ x1,p0 x0 x1→p1 x0 x1→∀ x2,∀ x3,p2 x0 x1 x2 x3→p3 x0 x1 x2 x3→p4 x0 x1 x2 x3→b):b:=by
 obtain ⟨x0,x1,h0,h1,x2,x3,h2,h3,h4⟩:=h
 exact k x0 x1 h0 h1 x2 x3 h2 h3 h4
theorem zt4 {t0:Sort _} {t1:Sort _} {t2:Sort _} {p0:t0→t1→t2→Prop} {p1:t0→t1→t2→Prop} {p2:t0→t1→t2→Prop} {p3:t0→t1→t2→Prop} {p4:t0→t1→t2→Prop} {p5:t0→t1→t2→Prop} {b:Prop} (h : ∃ x0,∃ x1,∃ x2,p0 x0 x1 x2∧p1 x0 x1 x2∧p2 x0 x1 x2∧p3 x0 x1 x2∧p4 x0 x1 x2∧p5 x0 x1 x2) (k : ∀ x0,∀ x1,∀ x2,p0 x0 x1 x2→p1 x0 x1 x2→p2 x0 x1 x2→p3 x0 x1 x2→p4 x0 x1 x2→p5 x0 x1 x2→b):b:=by
 obtain ⟨x0,x1,x2,h0,h1,h2,h3,h4,h5⟩:=h
 exact k x0 x1 x2 h0 h1 h2 h3 h4 h5
theorem zK5 {t0:Sort _} {t1:Sort _} {t2:Sort _} {t3:Sort _} {t4:Sort _} {p0:t0→t1→t2→t3→t4→Prop} {p1:t0→t1→t2→t3→t4→Prop} {p2:t0→t1→t2→t3→t4→Prop} {p3:t0→t1→t2→t3→t4→Prop} {b:Prop} (h : ∃ x0,∃ x1,∃ x2,∃ x3,∃ x4,p0 x0 x1 x2 x3 x4∧p1 x0 x1 x2 x3 x4∧p2 x0 x1 x2 x3 x4∧p3 x0 x1 x2 x3 x4) (k : ∀ x0,∀ x1,∀ x2,∀ x3,∀ x4,p0 x0 x1 x2 x3 x4→p1 x0 x1 x2 x3 x4→p2 x0 x1 x2 x3 x4→p3 x0 x1 x2 x3 x4→b):b:=by
 obtain ⟨x0,x1,x2,x3,x4,h0,h1,h2,h3⟩:=h
 exact k x0 x1 x2 x3 x4 h0 h1 h2 h3
theorem zE2 {t0:Sort _} {t1:Sort _} {t2:Sort _} {t3:Sort _} {t4:Sort _} {p0:Prop} {p1:t0→t1→Prop} {p2:t0→t1→t2→t3→t4→Prop} {p3:t0→t1→t2→t3→t4→Prop} {p4:t0→t1→t2→t3→t4→Prop} {b:Prop} (h:p0∧∃ x0,∃ x1,p1 x0 x1∧∃ x2,∃ x3,∃ x4,p2 x0 x1 x2 x3 x4∧p3 x0 x1 x2 x3 x4∧p4 x0 x1 x2 x3 x4) (k:p0→∀ x0,∀ x1,p1 x0 x1→∀ x2,∀ x3,∀ x4,p2 x0 x1 x2 x3 x4→p3 x0 x1 x2 x3 x4→p4 x0 x1 x2 x3 x4→b):b:=by
 obtain ⟨h0,x0,x1,h1,x2,x3,x4,h2,h3,h4⟩:=h
 exact k h0 x0 x1 h1 x2 x3 x4 h2 h3 h4
theorem zj4 {t0:Sort _} {t1:Sort _} {t2:Sort _} {t3:Sort _} {t4:Sort _} {t5:Sort _} {p0:t0→t1→Prop} {p1:t0→t1→Prop} {p2:t0→t1→t2→t3→Prop} {p3:t0→t1→t2→t3→Prop} {p4:t0→t1→t2→t3→t4→t5→Prop} {p5:t0→t1→t2→t3→t4→t5→Prop} {p6:t0→t1→t2→t3→t4→t5→Prop} {b:Prop} (h : ∃ x0,∃ x1,p0 x0 x1∧p1 x0 x1∧∃ x2,∃ x3,p2 x0 x1 x2 x3∧p3 x0 x1 x2 x3∧∃ x4,∃ x5,p4 x0 x1 x2 x3 x4 x5∧p5 x0 x1 x2 x3 x4 x5∧p6 x0 x1 x2 x3 x4 x5) (k : ∀ x0,∀ x1,p0 x0 x1→p1 x0 x1→∀ x2,∀ x3,p2 x0 x1 x2 x3→p3 x0 x1 x2 x3→∀ x4,∀ x5,p4 x0 x1 x2 x3 x4 x5→p5 x0 x1 x2 x3 x4 x5→p6 x0 x1 x2 x3 x4 x5→b):b:=by
 obtain ⟨x0,x1,h0,h1,x2,x3,h2,h3,x4,x5,h4,h5,h6⟩:=h
 exact k x0 x1 h0 h1 x2 x3 h2 h3 x4 x5 h4 h5 h6
theorem zb9 {t0:Sort _} {t1:Sort _} {t2:Sort _} {t3:Sort _} {t4:Sort _} {p0:t0→t1→t2→t3→t4→Prop} {p1:t0→t1→t2→t3→t4→Prop} {p2:t0→t1→t2→t3→t4→Prop} {p3:t0→t1→t2→t3→t4→Prop} {p4:t0→t1→t2→t3→t4→Prop} {p5:t0→t1→t2→t3→t4→Prop} {p6:t0→t1→t2→t3→t4→Prop} {p7:t0→t1→t2→t3→t4→Prop} {p8:t0→t1→t2→t3→t4→Prop} {p9:t0→t1→t2→t3→t4→Prop} {b:Prop} (h : ∃ x0,∃ x1,∃ x2,∃ x3,∃ x4,p0 x0 x1 x2 x3 x4∧p1 x0 x1 x2 x3 x4∧p2 x0 x1 x2 x3 x4∧p3 x0 x1 x2 x3 x4∧p4 x0 x1 x2 x3 x4∧p5 x0 x1 x2 x3 x4∧p6 x0 x1 x2 x3 x4∧p7 x0 x1 x2 x3 x4∧p8 x0 x1 x2 x3 x4∧p9 x0 x1 x2 x3 x4) (k : ∀ x0,∀ x1,∀ x2,∀ x3,∀ x4,p0 x0 x1 x2 x3 x4→p1 x0 x1 x2 x3 x4→p2 x0 x1 x2 x3 x4→p3 x0 x1 x2 x3 x4→p4 x0 x1 x2 x3 x4→p5 x0 x1 x2 x3 x4→p6 x0 x1 x2 x3 x4→p7 x0 x1 x2 x3 x4→p8 x0 x1 x2 x3 x4→p9 x0 x1 x2 x3 x4→b):b:=by
 obtain ⟨x0,x1,x2,x3,x4,h0,h1,h2,h3,h4,h5,h6,h7,h8,h9⟩:=h
 exact k x0 x1 x2 x3 x4 h0 h1 h2 h3 h4 h5 h6 h7 h8 h9
theorem zb3 {t0:Sort _} {t1:Sort _} {t2:Sort _} {t3:Sort _} {t4:Sort _} {t5:Sort _} {t6:Sort _} {t7:Sort _} {t8:Sort _} {t9:Sort _} {t10:Sort _} {t11:Sort _} {t12:Sort _} {p0:t0→t1→t2→t3→t4→t5→t6→t7→t8→t9→t10→t11→t12→Prop} {p1:t0→t1→t2→t3→t4→t5→t6→t7→t8→t9→t10→t11→t12→Prop} {b:Prop} (h : ∃ x0,∃ x1,∃ x2,∃ x3,∃ x4,∃ x5,∃ x6,∃ x7,∃ x8,∃ x9,∃ x10,∃ x11,∃ x12,p0 x0 x1 x2 x3 x4 x5 x6 x7 x8 x9 x10 x11 x12∧p1 x0 x1 x2 x3 x4 x5 x6 x7 x8 x9 x10 x11 x12) (k : ∀ x0,∀ x1,∀ x2,∀ x3,∀ x4,∀ x5,∀ x6,∀ x7,∀ x8,∀ x9,∀ x10,∀ x11,∀ x12,p0 x0 x1 x2 x3 x4 x5 x6 x7 x8 x9 x10 x11 x12→p1 x0 x1 x2 x3 x4 x5 x6 x7 x8 x9 x10 x11 x12→b):b:=by
 obtain ⟨x0,x1,x2,x3,x4,x5,x6,x7,x8,x9,x10,x11,x12,h0,h1⟩:=h
 exact k x0 x1 x2 x3 x4 x5 x6 x7 x8 x9 x10 x11 x12 h0 h1
theorem zj2 {t0:Sort _} {t1:Sort _} {t2:Sort _} {t3:Sort _} {t4:Sort _} {t5:Sort _} {t6:Sort _} {t7:Sort _} {t8:Sort _} {t9:Sort _} {t10:Sort _} {t11:Sort _} {t12:Sort _} {t13:Sort _} {t14:Sort _} {t15:Sort _} {t16:Sort _} {t17:Sort _} {p0:t0→t1→t2→t3→t4→t5→t6→t7→t8→t9→t10→t11→t12→t13→t14→t15→t16→t17→Prop} {b:Prop} (h : ∃ x0,∃ x1,∃ x2,∃ x3,∃ x4,∃ x5,∃ x6,∃ x7,∃ x8,∃ x9,∃ x10,∃ x11,∃ x12,∃ x13,∃ x14,∃ x15,∃ x16,∃ x17,p0 x0 x1 x2 x3 x4 x5 x6 x7 x8 x9 x10 x11 x12 x13 x14 x15 x16 x17) (k : ∀ x0,∀ x1,∀ x2,∀ x3,∀ x4,∀ x5,∀ x6,∀ x7,∀ x8,∀ x9,∀ x10,∀ x11,∀ x12,∀ x13,∀ x14,∀ x15,∀ x16,∀ x17,p0 x0 x1 x2 x3 x4 x5 x6 x7 x8 x9 x10 x11 x12 x13 x14 x15 x16 x17→b):b:=by
 obtain ⟨x0,x1,x2,x3,x4,x5,x6,x7,x8,x9,x10,x11,x12,x13,x14,x15,x16,x17,h0⟩:=h
 exact k x0 x1 x2 x3 x4 x5 x6 x7 x8 x9 x10 x11 x12 x13 x14 x15 x16 x17 h0
theorem fac {α:Type _} {p:α→Prop} {b:α} {l:List α} (h:p b) (t : ∀ x∈l,p x) : ∀ x∈b::l,p x:=List.forall_mem_cons.mpr ⟨h,t⟩
theorem fan {α:Type _} {p:α→Prop} : ∀ x∈([]:List α),p x:=fun _ h=>nomatch h
theorem mm {α:Type _} {l:List α} {x:α} (i:Nat) (h:l[i]? = some x):x∈l:=List.mem_of_getElem? h
theorem nda {α:Type _} {l:List α} (h:l.Nodup) {x y:α} (i j:Nat) (hij:i<j) (hx:l[i]? = some x) (hy:l[j]? = some y):x≠y:=by
 obtain ⟨h1,e1⟩:=List.getElem?_eq_some_iff.mp hx
 obtain ⟨h2,e2⟩:=List.getElem?_eq_some_iff.mp hy
 rw [← e1, ← e2]
 exact List.pairwise_iff_getElem.mp h i j h1 h2 hij
inductive W where
 | none | bool (b:Bool) | int (i:Int) | str (s:List Nat)
 | list (xs:List W) | tuple (xs:List W) | glob (v:Value)
inductive V where
 | w (x:W) | ref (a:Addr)
inductive Tag where
 | base | tmp | frame | obj (a:Addr)
 deriving DecidableEq
structure Gh where
 tag:Addr→Option Tag
 con:Addr→Obj
noncomputable def yk3 (o:Obj) (vs:Array Value):Prop:=o.cls = .type "tuple" ∧ ∃ n,o.data = .seq vs n
noncomputable def zL4 (c:String) (o:Obj) (vs:Array Value):Prop:=∃ n,o = { cls:=.type c,dict:=none,data:=.seq vs n,slots := #[] }
mutual
noncomputable def RW (g:Gh):W→Value→Prop
 | .none,v=>v = .none
 | .bool b,v=>v = .bool b
 | .int i,v=>∃ t,v = .int i t
 | .str s,v=>s.length≤sizeLine∧∃ t,v = .str ⟨s.toArray⟩ t
 | .list xs,v=>∃ a vs,v = .ref a∧g.tag a=some .base∧zL4 "list" (g.con a) vs∧xs.length≤sizeLine∧RWs g xs vs.toList
 | .tuple xs,v=>∃ a vs,v = .ref a∧g.tag a=some .base∧yk3 (g.con a) vs∧xs.length≤sizeLine∧RWs g xs vs.toList
 | .glob u,v=>v=u
noncomputable def RWs (g:Gh):List W→List Value→Prop
 | [],vs=>vs=[]
 | x::xs,vs=>∃ v r,vs=v::r∧RW g x v∧RWs g xs r
end
noncomputable def RV (g:Gh):V→Value→Prop
 | .w x,v=>RW g x v
 | .ref a,v=>v = .ref a
structure Gh.le (g g':Gh):Prop where
 base : ∀ a,g.tag a=some .base→g'.tag a=some .base∧g'.con a=g.con a
 tmp : ∀ a,g.tag a=some .tmp→g'.tag a=some .tmp∧g'.con a=g.con a
theorem Gh.le.refl (g:Gh):g.le g:=⟨fun _ h=>⟨h,rfl⟩,fun _ h=>⟨h,rfl⟩⟩
theorem Gh.le.trans {a b c:Gh} (x:a.le b) (y:b.le c):a.le c :=
 ⟨fun p h=>⟨(y.base p (x.base p h).1).1,((y.base p (x.base p h).1).2).trans (x.base p h).2⟩,
  fun p h=>⟨(y.tmp p (x.tmp p h).1).1,((y.tmp p (x.tmp p h).1).2).trans (x.tmp p h).2⟩⟩
noncomputable def Gh.leB (g g':Gh):Prop:=∀ a,g.tag a=some .base→g'.tag a=some .base∧g'.con a=g.con a
theorem Gh.le.leB {g g':Gh} (x:g.le g'):g.leB g':=x.base
mutual
theorem RW.mono {g g':Gh} (hb:g.leB g') : ∀ {x:W} {v:Value},RW g x v→RW g' x v
 | .none,_,h=>by simpa only [RW] using h
 | .bool _,_,h=>by simpa only [RW] using h
 | .int _,_,h=>by simpa only [RW] using h
 | .str _,_,h=>by simpa only [RW] using h
 | .list _,_,h=>by
  simp only [RW] at h ⊢
  refine zi4 h fun a vs e ht hs hz hw=>?_
  exact ⟨a,vs,e,(hb a ht).1,by rw [(hb a ht).2]; exact hs,hz,RWs.mono hb hw⟩
 | .tuple _,_,h=>by
  simp only [RW] at h ⊢
  refine zi4 h fun a vs e ht hs hz hw=>?_
  exact ⟨a,vs,e,(hb a ht).1,by rw [(hb a ht).2]; exact hs,hz,RWs.mono hb hw⟩
 | .glob _,_,h=>by simpa only [RW] using h
theorem RWs.mono {g g':Gh} (hb:g.leB g') : ∀ {xs:List W} {vs:List Value},RWs g xs vs→RWs g' xs vs
 | [],_,h=>by simpa only [RWs] using h
 | _::_,_,h=>by
  simp only [RWs] at h ⊢
  refine zb2 h fun v r e h1 h2=>?_
  exact ⟨v,r,e,RW.mono hb h1,RWs.mono hb h2⟩
end
theorem RV.mono {g g':Gh} (hb:g.leB g') {x:V} {v:Value} (h:RV g x v):RV g' x v:=by
 cases x with
 | w x=>exact RW.mono hb h
 | ref a=>exact h
theorem RW.intE {g:Gh} {i:Int} {v:Value} (h:RW g (.int i) v) : ∃ t,v = .int i t:=by simpa only [RW] using h
theorem RW.intK {g:Gh} {i:Int} {t:Tok}:RW g (.int i) (.int i t):=by simp only [RW]; exact ⟨t,rfl⟩
theorem RW.strE {g:Gh} {l:List Nat} {v:Value} (h:RW g (.str l) v):l.length≤sizeLine∧∃ t,v = .str ⟨l.toArray⟩ t:=by simpa only [RW] using h
theorem RV.refE {g:Gh} {a:Addr} {v:Value} (h:RV g (.ref a) v):v = .ref a:=h
theorem RV.intK {g:Gh} {i:Int} {t:Tok}:RV g (.w (.int i)) (.int i t):=by show RW g (.int i) _; exact RW.intK
theorem RWs.nil {g:Gh}:RWs g [] []:=by simp only [RWs]
theorem RWs.cons {g:Gh} {x v xs vs} (h:RW g x v) (hs:RWs g xs vs):RWs g (x::xs) (v::vs):=by
 simp only [RWs]; exact ⟨v,vs,rfl,h,hs⟩
theorem RWs.length {g:Gh} : ∀ {xs vs},RWs g xs vs→vs.length=xs.length
 | [],vs,h=>by simp only [RWs] at h; subst h; rfl
 | x::xs,vs,h=>by
  simp only [RWs] at h
  (refine zb2 h fun v r zq2 _ h2=>?_; subst zq2)
  simp [RWs.length h2]
theorem RWs.get {g:Gh} : ∀ {xs vs} (k:Nat) {x},RWs g xs vs→xs[k]? = some x→∃ v,vs[k]? = some v∧RW g x v
 | [],_,k,x,h,e=>by simp at e
 | y::ys,vs,k,x,h,e=>by
  simp only [RWs] at h
  (refine zb2 h fun v r zq2 h1 h2=>?_; subst zq2)
  cases k with
  | zero=>simp at e; subst e; exact ⟨v,rfl,h1⟩
  | succ k=>simp at e; simpa using RWs.get k h2 e
theorem RWs.append {g:Gh} : ∀ {xs vs ys us},RWs g xs vs→RWs g ys us→RWs g (xs++ys) (vs++us)
 | [],vs,ys,us,h,h'=>by simp only [RWs] at h; subst h; simpa using h'
 | x::xs,vs,ys,us,h,h'=>by
  simp only [RWs] at h
  (refine zb2 h fun v r zq2 h1 h2=>?_; subst zq2)
  exact RWs.cons h1 (RWs.append h2 h')
theorem RWs.map_str {g:Gh} : ∀ {l:List (List Nat)} {vs},RWs g (l.map W.str) vs→StrsAre vs (l.map fun s=>⟨s.toArray⟩)
 | [],vs,h=>by simp only [List.map_nil,RWs] at h; subst h; exact .nil
 | s::l,vs,h=>by
  simp only [List.map_cons,RWs,RW] at h
  (refine zb2 h fun v r zq2 zq3 h2=>?_; subst zq2; obtain ⟨_,t,rfl⟩:=zq3)
  exact .cons _ _ (RWs.map_str h2)
theorem RWs.map_int {g:Gh} : ∀ {l:List Int} {vs},RWs g (l.map W.int) vs→IntsAre vs l
 | [],vs,h=>by simp only [List.map_nil,RWs] at h; subst h; exact .nil
 | s::l,vs,h=>by
  simp only [List.map_cons,RWs,RW] at h
  (refine zb2 h fun v r zq2 zq3 h2=>?_; subst zq2; obtain ⟨t,rfl⟩:=zq3)
  exact .cons _ _ (RWs.map_int h2)
inductive O where
 | list (xs:List W)
 | iter (xs:List W)
 | lex (full:List Nat) (place:Nat) (line:Int) (push:List W)
 | citer (l:Addr) (done:Bool)
 | codes (cs:List (Pos × Str))
noncomputable def stAt (p:Program) (i:Nat):Stmt:=p.main.body.getD i (.Pass ⟨0,0,0,0⟩)
structure StV where
 body:List Stmt
 other:List Stmt:=[]
 test:Expr:=.Constant .none 0 ⟨0,0,0,0⟩
 scope:Scope:={ kind:=.function,names:=[],isGenerator:=false,isCoroutine:=false }
 pars:List Str:=[]
 loop:Bool:=false
noncomputable def stV:Stmt→StV
 | .FunctionDef (args:=a) (body:=b) (scope:=c) .. => { body:=b,scope:=c,pars:=a.args.map (·.arg) }
 | .ClassDef (body:=b) .. => { body:=b }
 | .For _ _ b _ _=>{ body:=b,loop:=true }
 | .While c b _ _=>{ body:=b,test:=c,loop:=true }
 | .If c a b _=>{ body:=a,other:=b,test:=c }
 | _=>{ body:=[] }
noncomputable def zb6 (s:Stmt):List Stmt:=(stV s).body
noncomputable def za4 (s:Stmt):Scope:=(stV s).scope
noncomputable def zh6 (s:Stmt):List Str:=(stV s).pars
structure Kc where
 prog:Program
 w:World
 s₀:Shared
 mg:Str→Option Value
 mb:Str→Option Value
 /-- the exception that is being handled -/
 hd:Option Value
 /-- the class of the lexers,its reader,and the def of what reads the text -/
 lexC:Addr
 lexR:Addr
 rdSt:Stmt
structure Gnd (K:Kc):Prop where
 ng:K.s₀.heap.Ns mainGlobals K.mg
 nb:K.s₀.heap.Ns builtinsNs K.mb
 lim:K.s₀.heap.NoLimit
structure LexTab where
 d:Addr
 p:Addr
 f:Addr
 fd:Addr
 r:Addr
 c1:Addr
 c2:Addr
 pl:Addr
noncomputable def zb5 (line:Int) (t1:Tok) (f:Addr) (t2:Tok) (p:Addr):Str→Option Value:=fun x =>
 if x=("lineno" : Str) then some (.int line t1) else if x=("instream" : Str) then some (.ref f) else
 if x=("whitespace" : Str) then some (.str ⟨#[10,9,13,32]⟩ t2) else if x=("pushback" : Str) then some (.ref p) else none
structure RdOk (K:Kc) (fd:FuncData) (c1 c2:Addr):Prop where
 body:fd.body = .stmts (zb6 K.rdSt)
 scope:fd.scope=za4 K.rdSt
 clo:fd.closure=[(("place" : Str),c1),(("text" : Str),c2)]∨fd.closure=[(("text" : Str),c2),(("place" : Str),c1)]
 glob:fd.globals=mainGlobals
 bui:fd.builtins=builtinsNs
 bind : ∀ u:Value,bindArgs fd ⟨[u],[]⟩=pure [(("count" : Str),u)]
noncomputable def CodeIn (g:Gh) (c:Addr) (q:Str):Prop:=g.tag c=some .base∧∃ vs t,(g.con c).data = .fields vs∧vs[1]? = some (.str q t)
theorem CodeIn.mono {g g':Gh} (hb:g.leB g') {c:Addr} {q:Str} (x:CodeIn g c q):CodeIn g' c q:=by
 refine yi7 x fun h1 vs t h2 h3=>?_
 exact ⟨(hb c h1).1,vs,t,by rw [(hb c h1).2]; exact h2,h3⟩
structure LexAt (K:Kc) (g:Gh) (h:Heap) (a:Addr) (t:LexTab) (full:List Nat) (place:Nat) (line:Int) (push:List W):Prop where
 tags : ∀ b,b∈[a,t.d,t.p,t.f,t.fd,t.r,t.c1,t.c2,t.pl]→g.tag b=some (.obj a)
 nd:[a,t.d,t.p,t.f,t.fd,t.r,t.c1,t.c2,t.pl].Nodup
 inst : ∃ t1 t2,h.InstFk a K.lexC (zb5 line t1 t.f t2 t.p)
 dd : ∃ o,h.get? a=some o∧o.dict=some t.d
 pbz:push.length≤sizeLine
 pb : ∃ ob vs,h.get? t.p=some ob∧zL4 "list" ob vs∧RWs g push vs.toList
 fn : ∃ ob,h.get? t.f=some ob∧ob.cls = .type "function" ∧ ob.dict=some t.fd∧∀ c,ob.data ≠ .cls c
 fdict:h.Ns t.fd (fun x=>if x=("read" : Str) then some (.ref t.r) else none)
 rd : ∃ ob fd cc,h.get? t.r=some ob∧ob.cls = .type "function" ∧ ob.data = .func fd∧RdOk K fd t.c1 t.c2∧fd.code = .ref cc∧CodeIn g cc fd.qualname
 cell1:h.IsCell t.c1 (some (.ref t.pl))
 fz:full.length≤sizeLine
 cell2 : ∃ tk,h.IsCell t.c2 (some (.str ⟨full.toArray⟩ tk))
 place : ∃ ob tk,h.get? t.pl=some ob∧zL4 "list" ob #[.int place tk]
noncomputable def ObjAt (K:Kc) (g:Gh) (h:Heap) (a:Addr):O→Prop
 | .list xs=>g.tag a=some (.obj a)∧xs.length≤sizeLine∧∃ ob vs,h.get? a=some ob∧zL4 "list" ob vs∧RWs g xs vs.toList
 | .iter xs=>g.tag a=some (.obj a)∧∃ l i vs,h.IsListIter a l i∧g.tag l=some .base∧zL4 "list" (g.con l) vs∧(i≤vs.size∧vs.size≤sizeLine)∧RWs g xs (vs.toList.drop i)
 | .lex full place line push=>∃ t,LexAt K g h a t full place line push
 | .citer l done=>g.tag a=some (.obj a)∧if done=true then h.get? a=some { cls:=.type "callable_iterator",data:=.fields #[.none,.none,.bool true] } else ∃ bm tk,g.tag bm=some (.obj a)∧bm≠a ∧
   h.get? a=some { cls:=.type "callable_iterator",data:=.fields #[.ref bm,.str ⟨#[]⟩ tk,.bool false] }∧h.get? bm=some { cls:=.type "method",data:=.fields #[.ref K.lexR,.ref l] }
 | .codes cs=>g.tag a=some (.obj a)∧∃ ps,h.get? a=some (tabObj ps)∧TriplesOk ps.toList∧∀ p∈cs,∀ cv,codeAmong p.1 ps.toList=some cv→∃ c,cv = .ref c∧CodeIn g c p.2
noncomputable def OV (g:Gh):Option V→Option Value→Prop
 | none,_=>True
 | some x,some v=>RV g x v
 | some _,none=>False
theorem OV.mono {g g':Gh} (hb:g.leB g') {x:Option V} {v:Option Value} (h:OV g x v):OV g' x v:=by
 cases x with
 | none=>trivial
 | some x=>cases v with
  | none=>exact h
  | some v=>exact RV.mono hb h
structure Lo where
 v:List (Str × Option V)
 c:List (Str × V):=[]
structure FrameAt (g:Gh) (h:Heap) (env:Env) (ρ:Lo):Prop where
 kind:env.scope.kind = .function
 glob:env.globals=mainGlobals
 bui:env.builtins=builtinsNs
 nd:(ρ.v.map (·.1)).Nodup
 lt:g.tag env.locals=some .frame
 inj : ∀ x y c,env.cells.lookup x=some c→env.cells.lookup y=some c→x=y
 nel : ∀ x c,env.cells.lookup x=some c→c≠env.locals
 var : ∃ m,h.Ns env.locals m∧∀ x ov,(x,ov)∈ρ.v →
  (env.kindOf x=some .local∧OV g ov (m x)) ∨
  (env.kindOf x=some .cell∧∃ c u,env.cells.lookup x=some c∧g.tag c=some .frame∧h.IsCell c u∧OV g ov u)
 cap : ∀ x v,(x,v)∈ρ.c→(env.kindOf x=some .cell∨env.kindOf x=some .free)∧∃ c u,env.cells.lookup x=some c∧g.tag c=some .tmp∧h.IsCell c (some u)∧RV g v u
noncomputable def HdOk (K:Kc) (g:Gh):Prop:=K.hd=none∨∃ e vs,K.hd=some (.ref e)∧g.tag e=some .tmp∧(g.con e).data = .fields vs∧vs[2]? = some .none
theorem HdOk.mono {K:Kc} {g g':Gh} (x:HdOk K g) (h : ∀ a,g.tag a=some .tmp→g'.tag a=some .tmp∧g'.con a=g.con a):HdOk K g':=by
 rcases x with x | ⟨e,vs,h1,h2,h3,h4⟩
 ·exact .inl x
 ·exact .inr ⟨e,vs,h1,(h e h2).1,by rw [(h e h2).2]; exact h3,h4⟩
structure Rep (K:Kc) (g:Gh) (env:Env) (ρ:Lo) (σ:List (Addr × O)) (s:Shared):Prop where
 G:Gnd K
 hd:HdOk K g
 sh : ∃ h tk,s = { K.s₀ with heap:=h,toks:=tk }
 live : ∀ a t,g.tag a=some t→∃ o,s.heap.get? a=some o
 fix : ∀ a,(g.tag a=some .base∨g.tag a=some .tmp)→s.heap.get? a=some (g.con a)
 gnd : ∀ a o,K.s₀.heap.get? a=some o→g.tag a=some .base∧g.con a=o
 fr:FrameAt g s.heap env ρ
 ob : ∀ a o,(a,o)∈σ→ObjAt K g s.heap a o
 nd:(σ.map (·.1)).Nodup
theorem IsCell.eqAt {h h':Heap} {c:Addr} {v:Option Value} (x:h.IsCell c v) (e:h'.get? c=h.get? c):h'.IsCell c v :=
 let ⟨o,ho,hd⟩:=x; ⟨o,e.trans ho,hd⟩
theorem Ns.eqAt {h h':Heap} {a m} (hn:h.Ns a m) (e:h'.get? a=h.get? a):h'.Ns a m :=
 let ⟨o,es,ep,ho,r⟩:=hn; ⟨o,es,ep,e.trans ho,r⟩
theorem Ns1.eqAt {h h':Heap} {a m} (hn:h.Ns1 a m) (e:h'.get? a=h.get? a):h'.Ns1 a m:=hn.at fun o ho=>e.trans ho
theorem InstFk.eqAt {h h':Heap} {a C:Addr} {m:Str→Option Value} (x:h.InstFk a C m) (e:h'.get? a=h.get? a) (ed : ∀ o d,h.get? a=some o→o.dict=some d→h'.get? d=h.get? d):h'.InstFk a C m:=by
 refine zf9 x fun o h1 h2 h3 h4=>?_
 refine ⟨o,e.trans h1,h2,h3,?_⟩
 rcases h4 with h4 | ⟨d,q1,q2,q3,q4⟩
 ·exact .inl h4
 ·have ed':=ed o d h1 q1
  refine zd4 q4 fun od r1 r2 r3=>?_
  exact .inr ⟨d,q1,q2,Ns1.eqAt q3 ed',od,ed'.trans r1,r2,r3⟩
theorem LexAt.move {K:Kc} {g g':Gh} {h h':Heap} {a:Addr} {t full place line push} (x:LexAt K g h a t full place line push) (hb:g.leB g')
  (ht : ∀ b,g.tag b=some (.obj a)→g'.tag b=some (.obj a)∧h'.get? b=h.get? b):LexAt K g' h' a t full place line push:=by
 have hm : ∀ b,b∈[a,t.d,t.p,t.f,t.fd,t.r,t.c1,t.c2,t.pl]→h'.get? b=h.get? b:=fun b hb=>(ht b (x.tags b hb)).2
 exact {
  tags:=fun b hb=>(ht b (x.tags b hb)).1
  nd:=x.nd
  inst:=by
   refine obEE x.inst fun t1 t2 e=>?_
   refine obEA x.dd fun o ho hd=>?_
   refine ⟨t1,t2,InstFk.eqAt e (hm a (mm 0 rfl)) fun o' d h1 h2=>?_⟩
   rw [ho] at h1; cases h1
   rw [hd] at h2; cases h2
   exact hm _ (mm 1 rfl)
  dd:=let ⟨o,ho,hd⟩:=x.dd; ⟨o,(hm a (mm 0 rfl)).trans ho,hd⟩
  pbz:=x.pbz
  fz:=x.fz
  pb:=let ⟨ob,vs,e1,e2,e3⟩:=x.pb; ⟨ob,vs,(hm _ (mm 2 rfl)).trans e1,e2,RWs.mono hb e3⟩
  fn:=let ⟨ob,e1,e2⟩:=x.fn; ⟨ob,(hm _ (mm 3 rfl)).trans e1,e2⟩
  fdict:=Ns.eqAt x.fdict (hm _ (mm 4 rfl))
  rd:=let ⟨ob,fd,cc,e1,e2,e3,e4,e5,e6⟩:=x.rd; ⟨ob,fd,cc,(hm _ (mm 5 rfl)).trans e1,e2,e3,e4,e5,e6.mono hb⟩
  cell1:=IsCell.eqAt x.cell1 (hm _ (mm 6 rfl))
  cell2:=let ⟨tk,e⟩:=x.cell2; ⟨tk,IsCell.eqAt e (hm _ (mm 7 rfl))⟩
  place:=let ⟨ob,tk,e,r⟩:=x.place; ⟨ob,tk,(hm _ (mm 8 rfl)).trans e,r⟩ }
theorem ObjAt.move {K:Kc} {g g':Gh} {h h':Heap} {a:Addr} {o:O} (x:ObjAt K g h a o) (hb:g.leB g')
  (ht : ∀ b,g.tag b=some (.obj a)→g'.tag b=some (.obj a)∧h'.get? b=h.get? b):ObjAt K g' h' a o:=by
 cases o with
 | list xs =>
  refine zf2 x fun e1 ez ob vs e2 e3 e4=>?_
  exact ⟨(ht a e1).1,ez,ob,vs,(ht a e1).2.trans e2,e3,RWs.mono hb e4⟩
 | iter xs =>
  (refine zm2 x fun e1 l i vs zq4 e3 e4 e7 e8=>?_; obtain ⟨oi,q1,q2⟩:=zq4)
  exact ⟨(ht a e1).1,l,i,vs,⟨oi,(ht a e1).2.trans q1,q2⟩,(hb l e3).1,by rw [(hb l e3).2]; exact e4,e7,RWs.mono hb e8⟩
 | lex full place line push =>
  obtain ⟨t,x⟩:=x
  exact ⟨t,x.move hb ht⟩
 | citer l done =>
  (have e1:=x.1; have x:=x.2)
  refine ⟨(ht a e1).1,?_⟩
  cases done with
  | true=>exact (ht a e1).2.trans x
  | false =>
   refine zh7 x fun bm tk q1 q2 q3 q4=>?_
   exact ⟨bm,tk,(ht bm q1).1,q2,(ht a e1).2.trans q3,(ht bm q1).2.trans q4⟩
 | codes cs =>
  refine yb6 x fun e1 ps e2 e3 e4=>?_
  exact ⟨(ht a e1).1,ps,(ht a e1).2.trans e2,e3,fun p hp cv hc=>let ⟨c,q1,q2⟩:=e4 p hp cv hc; ⟨c,q1,q2.mono hb⟩⟩
theorem FrameAt.move {g g':Gh} {h h':Heap} {env:Env} {ρ} (x:FrameAt g h env ρ) (hb:g.leB g')
  (hf : ∀ b,g.tag b=some .frame→g'.tag b=some .frame∧h'.get? b=h.get? b)
  (ht : ∀ b,g.tag b=some .tmp→g'.tag b=some .tmp∧h'.get? b=h.get? b):FrameAt g' h' env ρ :=
 { x with
  lt:=(hf _ x.lt).1
  var:=by
   refine obEA x.var fun m hn hv=>?_
   refine ⟨m,Ns.eqAt hn (hf _ x.lt).2,fun y ov hy=>?_⟩
   rcases hv y ov hy with ⟨h1,h2⟩ | ⟨h1,c,u,h2,h3,h4,h5⟩
   ·exact .inl ⟨h1,h2.mono hb⟩
   ·exact .inr ⟨h1,c,u,h2,(hf c h3).1,IsCell.eqAt h4 (hf c h3).2,h5.mono hb⟩
  cap:=fun y v hy=>by
   refine zc5 (x.cap y v hy) fun h1 c u h2 h3 h4 h5=>?_
   exact ⟨h1,c,u,h2,(ht c h3).1,IsCell.eqAt h4 (ht c h3).2,h5.mono hb⟩ }
section
variable {K:Kc} {g g':Gh} {env:Env} {ρ:Lo} {σ:List (Addr × O)} {s:Shared}
theorem Rep.lt (R:Rep K g env ρ σ s) {a:Addr} {t:Tag} (h:g.tag a=some t):a<s.heap.objs.size:=let ⟨_,e⟩:=R.live a t h; Heap.lt_size e
theorem Rep.toks (R:Rep K g env ρ σ s) (tk:Nat):Rep K g env ρ σ { s with toks:=tk }:=by
 (refine obEE R.sh fun h t zq2=>?_; subst zq2)
 exact ⟨R.G,R.hd,⟨h,tk,rfl⟩,R.live,R.fix,R.gnd,R.fr,R.ob,R.nd⟩
theorem Rep.heap (R:Rep K g env ρ σ s) {h':Heap} {tk:Nat} (hk : ∀ b t o,g.tag b=some t→s.heap.get? b=some o→h'.get? b=some o):Rep K g env ρ σ { s with heap:=h',toks:=tk }:=by
 have hq : ∀ b t,g.tag b=some t→h'.get? b=s.heap.get? b:=fun b t e=>by
  obtain ⟨o,ho⟩:=R.live b t e
  rw [ho]; exact hk b t o e ho
 (refine obEE R.sh fun h t zq2=>?_; subst zq2)
 exact ⟨R.G,R.hd,⟨h',tk,rfl⟩,fun a t e=>by
   obtain ⟨o,ho⟩:=R.live a t e
   exact ⟨o,hk a t o e ho⟩,
  fun a e=>by
   rcases e with e | e
   ·exact (hq a _ e).trans (R.fix a (.inl e))
   ·exact (hq a _ e).trans (R.fix a (.inr e)),
  R.gnd,R.fr.move (fun b e=>⟨e,rfl⟩) (fun b e=>⟨e,hq b _ e⟩) (fun b e=>⟨e,hq b _ e⟩),
  fun a o m=>(R.ob a o m).move (fun b e=>⟨e,rfl⟩) fun b e=>⟨e,hq b _ e⟩,R.nd⟩
theorem Rep.push (R:Rep K g env ρ σ s) (o:Obj):Rep K g env ρ σ { s with heap:=s.heap.push o }:=by
 have:=R.heap (h':=s.heap.push o) (tk:=s.toks) fun b t o' e ho=>Heap.get?_push_of_some _ ho
 exact this
theorem Rep.keeps (R:Rep K g env ρ σ s) : ∀ b o,K.s₀.heap.get? b=some o→s.heap.get? b=some o:=fun b o e=>by
 (have zq:=R.gnd b o e; have h1:=zq.1; have h2:=zq.2)
 rw [R.fix b (.inl h1),h2]
end
noncomputable def Gh.set (g:Gh) (a:Addr) (t:Option Tag) (o:Obj):Gh:=⟨fun b=>if b=a then t else g.tag b,fun b=>if b=a then o else g.con b⟩
theorem Gh.set_self (g:Gh) (a t o):(g.set a t o).tag a=t∧(g.set a t o).con a=o:=by simp [Gh.set]
theorem Gh.set_ne (g:Gh) {a b} (t o) (h:b≠a):(g.set a t o).tag b=g.tag b∧(g.set a t o).con b=g.con b:=by simp [Gh.set,h]
theorem Gh.le_set {g:Gh} {a t o} (h:g.tag a=none):g.le (g.set a t o):=by
 constructor
 ·intro b hb
  have:b≠a:=by rintro rfl; rw [h] at hb; cases hb
  rw [(g.set_ne t o this).1,(g.set_ne t o this).2]; exact ⟨hb,rfl⟩
 ·intro b hb
  have:b≠a:=by rintro rfl; rw [h] at hb; cases hb
  rw [(g.set_ne t o this).1,(g.set_ne t o this).2]; exact ⟨hb,rfl⟩
section
variable {K:Kc} {g g':Gh} {env:Env} {ρ:Lo} {σ:List (Addr × O)} {s:Shared}
theorem Rep.fresh (R:Rep K g env ρ σ s):g.tag s.heap.objs.size=none:=by
 cases h:g.tag s.heap.objs.size with
 | none=>rfl
 | some t=>exact absurd (R.lt h) (Nat.lt_irrefl _)
theorem Rep.tagAs (R:Rep K g env ρ σ s) {a:Addr} {o:Obj} {t:Tag} (ha:s.heap.get? a=some o) (hn:g.tag a=none) :
  Rep K (g.set a (some t) o) env ρ σ s:=by
 have hle:g.le (g.set a (some t) o):=Gh.le_set hn
 have hne : ∀ b t',g.tag b=some t'→b≠a:=fun b t' hb e=>by subst e; rw [hn] at hb; cases hb
 refine ⟨R.G,R.hd.mono hle.tmp,R.sh,fun b t' hb=>?_,fun b hb=>?_,fun b o' hb=>?_,?_,fun b o' m=>?_,R.nd⟩
 ·by_cases e:b=a
  ·subst e; exact ⟨_,ha⟩
  ·rw [(g.set_ne _ o e).1] at hb; exact R.live b t' hb
 ·by_cases e:b=a
  ·subst e; rw [(g.set_self b _ o).2]; exact ha
  ·rw [(g.set_ne _ o e).1] at hb; rw [(g.set_ne _ o e).2]; exact R.fix b hb
 ·have e:=hne b _ (R.gnd b o' hb).1
  rw [(g.set_ne _ o e).1,(g.set_ne _ o e).2]; exact R.gnd b o' hb
 ·exact R.fr.move hle.leB (fun b hb=>⟨by rw [(g.set_ne _ o (hne b _ hb)).1]; exact hb,rfl⟩) (fun b hb=>⟨by rw [(g.set_ne _ o (hne b _ hb)).1]; exact hb,rfl⟩)
 ·exact (R.ob b o' m).move hle.leB fun c hc=>⟨by rw [(g.set_ne _ o (hne c _ hc)).1]; exact hc,rfl⟩
theorem Rep.base (R:Rep K g env ρ σ s) (o:Obj) (nf:o.isFreed=false) :
  ∃ g',g.le g'∧g'.tag s.heap.objs.size=some .base∧g'.con s.heap.objs.size=o∧Rep K g' env ρ σ { s with heap:=s.heap.push o } :=
 ⟨g.set s.heap.objs.size (some .base) o,Gh.le_set R.fresh,(g.set_self _ _ o).1,(g.set_self _ _ o).2,
  (R.push o).tagAs (a:=s.heap.objs.size) (Heap.get?_push_size _ nf) R.fresh⟩
end
end Mine
namespace Mine
noncomputable abbrev KM (K:Kc):Model:=model K.prog K.w
structure Fit (K:Kc) (n:Nat) (A:Around):Prop where
 depth:A.depth+10*n≤900
 units:A.units+200*n≤9000
 hand:A.handled=K.hd
noncomputable def RVs (g:Gh):List V→List Value→Prop
 | [],us=>us=[]
 | v::vs,us=>∃ u r,us=u::r∧RV g v u∧RVs g vs r
structure Ev (K:Kc) (n:Nat) (env:Env) (ρ:Lo) (e:Expr) (σ:List (Addr × O)) (v:V) (σ':List (Addr × O))  : Prop where
 go :   ∀ ⦃A:Around⦄ ⦃E:Value→Shared→Prop⦄ ⦃s:Shared⦄ ⦃Q:Value→Shared→Prop⦄ ⦃g:Gh⦄,Fit K n A→Rep K g env ρ σ s →
  (∀ g' s' u,g.le g'→Rep K g' env ρ σ' s'→RV g' v u→Q u s')→wpAny (KM K) A (eval e env) Q E s
noncomputable instance {K:Kc} {n:Nat} {env:Env} {ρ:Lo} {e:Expr} {σ:List (Addr × O)} {v:V} {σ':List (Addr × O)}:CoeFun (Ev K n env ρ e σ v σ') (fun _ =>   ∀ ⦃A:Around⦄ ⦃E:Value→Shared→Prop⦄ ⦃s:Shared⦄ ⦃Q:Value→Shared→Prop⦄ ⦃g:Gh⦄,Fit K n A→Rep K g env ρ σ s →
  (∀ g' s' u,g.le g'→Rep K g' env ρ σ' s'→RV g' v u→Q u s')→wpAny (KM K) A (eval e env) Q E s):=⟨fun h=>h.go⟩
structure Evs (K:Kc) (n:Nat) (env:Env) (ρ:Lo) (es:List Expr) (σ:List (Addr × O)) (vs:List V) (σ':List (Addr × O))  : Prop where
 go :   ∀ ⦃A:Around⦄ ⦃E:Value→Shared→Prop⦄ ⦃s:Shared⦄ ⦃pos:Pos⦄ ⦃Q:List Value→Shared→Prop⦄ ⦃g:Gh⦄,Fit K n A→Rep K g env ρ σ s →
  (∀ g' s' us,g.le g'→Rep K g' env ρ σ' s'→RVs g' vs us→Q us s')→wpAny (KM K) A (spliced (backTo pos (starEach es env))) Q E s
noncomputable instance {K:Kc} {n:Nat} {env:Env} {ρ:Lo} {es:List Expr} {σ:List (Addr × O)} {vs:List V} {σ':List (Addr × O)}:CoeFun (Evs K n env ρ es σ vs σ') (fun _ =>   ∀ ⦃A:Around⦄ ⦃E:Value→Shared→Prop⦄ ⦃s:Shared⦄ ⦃pos:Pos⦄ ⦃Q:List Value→Shared→Prop⦄ ⦃g:Gh⦄,Fit K n A→Rep K g env ρ σ s →
  (∀ g' s' us,g.le g'→Rep K g' env ρ σ' s'→RVs g' vs us→Q us s')→wpAny (KM K) A (spliced (backTo pos (starEach es env))) Q E s):=⟨fun h=>h.go⟩
structure Ts (K:Kc) (n:Nat) (env:Env) (ρ:Lo) (e:Expr) (σ:List (Addr × O)) (b:Bool) (σ':List (Addr × O))  : Prop where
 go :   ∀ ⦃A:Around⦄ ⦃E:Value→Shared→Prop⦄ ⦃s:Shared⦄ ⦃Q:Bool→Shared→Prop⦄ ⦃g:Gh⦄,Fit K n A→Rep K g env ρ σ s →
  (∀ g' s',g.le g'→Rep K g' env ρ σ' s'→Q b s')→wpAny (KM K) A (isTrue e env (eval e env)) Q E s
noncomputable instance {K:Kc} {n:Nat} {env:Env} {ρ:Lo} {e:Expr} {σ:List (Addr × O)} {b:Bool} {σ':List (Addr × O)}:CoeFun (Ts K n env ρ e σ b σ') (fun _ =>   ∀ ⦃A:Around⦄ ⦃E:Value→Shared→Prop⦄ ⦃s:Shared⦄ ⦃Q:Bool→Shared→Prop⦄ ⦃g:Gh⦄,Fit K n A→Rep K g env ρ σ s →
  (∀ g' s',g.le g'→Rep K g' env ρ σ' s'→Q b s')→wpAny (KM K) A (isTrue e env (eval e env)) Q E s):=⟨fun h=>h.go⟩
section
variable {K:Kc} {n:Nat} {env:Env} {ρ:Lo} {σ σ' σ₁ σ₂:List (Addr × O)}
theorem Evs.nil:Evs K n env ρ [] σ [] σ:=.mk fun _ _ _ _ _ _ _ R h=>spliced_none (h _ _ [] (.refl _) R rfl)
theorem Evs.cons {e:Expr} {es:List Expr} {v:V} {vs:List V} (h1:Ev K n env ρ e σ v σ₁) (h2:Evs K n env ρ es σ₁ vs σ')
  (he:starEach (e::es) env=(false,eval e env)::starEach es env:=by rfl):Evs K n env ρ (e::es) σ (v::vs) σ':=.mk fun _ _ _ _ _ _ F R h =>
 spliced_more (h1 F R fun g1 s1 u l1 R1 r1=>h2 F R1 fun g2 s2 us l2 R2 r2=>h g2 s2 (u::us) (l1.trans l2) R2 ⟨u,us,rfl,r1.mono l2.leB,r2⟩) he
theorem Ev.cnone {k pos}:Ev K n env ρ (.Constant .none k pos) σ (.w .none) σ:=.mk fun _ _ _ _ _ _ R h=>wpAny_Constant_none (h _ _ _ (.refl _) R (by simp only [RV,RW]))
theorem Ev.cint {i k pos}:Ev K n env ρ (.Constant (.int i) k pos) σ (.w (.int i)) σ:=.mk fun _ _ _ _ _ _ R h=>wpAny_Constant_int (h _ _ _ (.refl _) (R.toks _) (by first | exact RW.intK | exact RV.intK))
theorem Ev.cstr {x:Str} {l:List Nat} {k pos} (hx:x=⟨l.toArray⟩) (hl:l.length≤sizeLine:=by decide):Ev K n env ρ (.Constant (.str x) k pos) σ (.w (.str l)) σ:=.mk fun _ _ _ _ _ _ R h =>
 wpAny_Constant_str (h _ _ _ (.refl _) (R.toks _) (by simp only [RV,RW]; exact ⟨hl,_,by rw [hx]⟩))
theorem Ev.cap {x:Str} {pos} {v:V} (hx:(x,v)∈ρ.c) (hd:(x==("__debug__" : Str))=false:=by kernel_rfl) (hc:(x==("__classdict__" : Str))=false:=by kernel_rfl) :
  Ev K n env ρ (.Name x pos) σ v σ:=.mk fun A E s Q g _ R h=>by
 refine wpAny_Name ?_ hd
 refine zc5 (R.fr.cap x v hx) fun h1 c u h2 h3 h4 h5=>?_
 rcases h1 with h1 | h1
 ·exact wpAny_loadName_cell R.fr.kind h1 h2 h4 (h _ _ _ (.refl _) R h5)
 ·exact wpAny_loadName_free R.fr.kind h1 h2 h4 (h _ _ _ (.refl _) R h5) hc
theorem Ev.name {x:Str} {pos} {v:V} (hx:(x,some v)∈ρ.v) (hd:(x==("__debug__" : Str))=false:=by kernel_rfl) :
  Ev K n env ρ (.Name x pos) σ v σ:=.mk fun A E s Q g _ R h=>by
 refine wpAny_Name ?_ hd
 refine obEA R.fr.var fun m hn hv=>?_
 rcases hv x (some v) hx with ⟨h1,h2⟩ | ⟨h1,c,u,h2,h3,h4,h5⟩
 ·cases hm:m x with
  | none=>rw [hm] at h2; exact h2.elim
  | some u=>rw [hm] at h2; exact wpAny_loadName_local R.fr.kind h1 hn hm (h _ _ _ (.refl _) R h2)
 ·cases u with
  | none=>exact h5.elim
  | some u=>exact wpAny_loadName_cell R.fr.kind h1 h2 h4 (h _ _ _ (.refl _) R h5)
theorem Ev.glob {x:Str} {pos} {w:W} {u:Value} (hk:env.kindOf x=some .globalImplicit) (hx:K.mg x=some u) (hw : ∀ g,(∀ a o,K.s₀.heap.get? a=some o→g.tag a=some .base∧g.con a=o)→RW g w u)
  (hd:(x==("__debug__" : Str))=false:=by kernel_rfl):Ev K n env ρ (.Name x pos) σ (.w w) σ:=.mk fun _ _ _ _ _ _ R h =>
 Calls.Name_function_global R.fr.kind hk (Calls.loadGlobal_global (by rw [R.fr.glob]; exact R.G.ng.keeps R.keeps) hx (h _ _ _ (.refl _) R (hw _ R.gnd))) hd
theorem Ev.bui {x:Str} {pos} {u:Value} (hk:env.kindOf x=some .globalImplicit) (hx:K.mg x=none) (hb:K.mb x=some u)
  (hd:(x==("__debug__" : Str))=false:=by kernel_rfl):Ev K n env ρ (.Name x pos) σ (.w (.glob u)) σ:=.mk fun _ _ _ _ _ _ R h =>
 Calls.Name_function_global R.fr.kind hk (Calls.loadGlobal_builtin (by rw [R.fr.glob]; exact R.G.ng.keeps R.keeps) hx (by rw [R.fr.bui]; exact R.G.nb.keeps R.keeps) hb
  (h _ _ _ (.refl _) R (by simp only [RV,RW]))) hd
structure Opn (K:Kc) (n:Nat) (t:Value→Value→Sem Value) (x y z:W)  : Prop where
 go :   ∀ ⦃A:Around⦄ ⦃E:Value→Shared→Prop⦄ ⦃s:Shared⦄ ⦃Q:Value→Shared→Prop⦄ ⦃g:Gh⦄ ⦃env ρ σ⦄ ⦃u v:Value⦄,Fit K n A→Rep K g env ρ σ s→RW g x u→RW g y v →
  (∀ g' s' r,g.le g'→Rep K g' env ρ σ s'→RW g' z r→Q r s')→wpAny (KM K) A (t u v) Q E s
noncomputable instance {K:Kc} {n:Nat} {t:Value→Value→Sem Value} {x y z:W}:CoeFun (Opn K n t x y z) (fun _ =>   ∀ ⦃A:Around⦄ ⦃E:Value→Shared→Prop⦄ ⦃s:Shared⦄ ⦃Q:Value→Shared→Prop⦄ ⦃g:Gh⦄ ⦃env ρ σ⦄ ⦃u v:Value⦄,Fit K n A→Rep K g env ρ σ s→RW g x u→RW g y v →
  (∀ g' s' r,g.le g'→Rep K g' env ρ σ s'→RW g' z r→Q r s')→wpAny (KM K) A (t u v) Q E s):=⟨fun h=>h.go⟩
theorem Ev.bin {op:Operator} {l r:Expr} {pos} {x y z:W} (h1:Ev K n env ρ l σ (.w x) σ₁) (h2:Ev K n env ρ r σ₁ (.w y) σ₂) (ho:Opn K n (binaryOp op) x y z) :
  Ev K n env ρ (.BinOp l op r pos) σ (.w z) σ₂:=.mk fun _ _ _ _ _ F R h =>
 wpAny_BinOp (h1 F R fun _ _ _ l1 R1 r1=>h2 F R1 fun _ _ _ l2 R2 r2=>ho F R2 (RW.mono l2.leB r1) r2 fun g3 s3 r l3 R3 r3=>h g3 s3 r ((l1.trans l2).trans l3) R3 r3)
section ops
variable {a b:Int} {p q:List Nat}
theorem Opn.addI:Opn K n (binaryOp .Add) (.int a) (.int b) (.int (a+b)):=.mk fun _ _ _ _ _ _ _ _ _ _ _ R hu hv h=>by
 obtain ⟨t,rfl⟩:=RW.intE hu; obtain ⟨t',rfl⟩:=RW.intE hv
 exact add_int (h _ _ _ (.refl _) (R.toks _) (by first | exact RW.intK | exact RV.intK))
theorem Opn.subI:Opn K n (binaryOp .Sub) (.int a) (.int b) (.int (a - b)):=.mk fun _ _ _ _ _ _ _ _ _ _ _ R hu hv h=>by
 obtain ⟨t,rfl⟩:=RW.intE hu; obtain ⟨t',rfl⟩:=RW.intE hv
 exact sub_int (h _ _ _ (.refl _) (R.toks _) (by first | exact RW.intK | exact RV.intK))
theorem Opn.mulI (hm:IntMulOk a b):Opn K n (binaryOp .Mult) (.int a) (.int b) (.int (a*b)):=.mk fun _ _ _ _ _ _ _ _ _ _ _ R hu hv h=>by
 obtain ⟨t,rfl⟩:=RW.intE hu; obtain ⟨t',rfl⟩:=RW.intE hv
 exact mul_int (h _ _ _ (.refl _) (R.toks _) (by first | exact RW.intK | exact RV.intK)) hm
theorem Opn.divI (hb:0<b) (hp:Builtin.divisionGoesByPylong a b=false):Opn K n (binaryOp .FloorDiv) (.int a) (.int b) (.int (a/b)):=.mk fun _ _ _ _ _ _ _ _ _ _ _ R hu hv h=>by
 obtain ⟨t,rfl⟩:=RW.intE hu; obtain ⟨t',rfl⟩:=RW.intE hv
 exact floordiv_int (by lia) (h _ _ _ (.refl _) (R.toks _) (by simp only [RW]; exact ⟨_,by rw [Int.fdiv_eq_ediv_of_nonneg _ (Int.le_of_lt hb)]⟩)) (.inl hp)
theorem Opn.modI (hb:0<b):Opn K n (binaryOp .Mod) (.int a) (.int b) (.int (a%b)):=.mk fun _ _ _ _ _ _ _ _ _ _ _ R hu hv h=>by
 obtain ⟨t,rfl⟩:=RW.intE hu; obtain ⟨t',rfl⟩:=RW.intE hv
 exact mod_int' (by lia) (h _ _ _ (.refl _) (R.toks _) (by simp only [RW]; exact ⟨_,by rw [Int.fmod_eq_emod_of_nonneg _ (Int.le_of_lt hb)]⟩))
theorem Opn.powI (hn:0≤b) (hsz:(Builtin.Int.intBits a:Int)*b≤2 ^ 27):Opn K n (binaryOp .Pow) (.int a) (.int b) (.int (a ^ b.toNat)):=.mk fun _ _ _ _ _ _ _ _ _ _ _ R hu hv h=>by
 obtain ⟨t,rfl⟩:=RW.intE hu; obtain ⟨t',rfl⟩:=RW.intE hv
 exact pow_int hn hsz (h _ _ _ (.refl _) (R.toks _) (by first | exact RW.intK | exact RV.intK))
theorem Opn.shlI (hn:0≤b) (hsz:(Builtin.Int.intBits a:Int)+b≤2 ^ 27):Opn K n (binaryOp .LShift) (.int a) (.int b) (.int (a*2 ^ b.toNat)):=.mk fun _ _ _ _ _ _ _ _ _ _ _ R hu hv h=>by
 obtain ⟨t,rfl⟩:=RW.intE hu; obtain ⟨t',rfl⟩:=RW.intE hv
 exact lshift_int hn hsz (h _ _ _ (.refl _) (R.toks _) (by first | exact RW.intK | exact RV.intK))
theorem Opn.andI:Opn K n (binaryOp .BitAnd) (.int a) (.int b) (.int (Builtin.bitAnd a b)):=.mk fun _ _ _ _ _ _ _ _ _ _ _ R hu hv h=>by
 obtain ⟨t,rfl⟩:=RW.intE hu; obtain ⟨t',rfl⟩:=RW.intE hv
 exact and_int (h _ _ _ (.refl _) (R.toks _) (by first | exact RW.intK | exact RV.intK))
theorem Opn.xorI:Opn K n (binaryOp .BitXor) (.int a) (.int b) (.int (Builtin.bitXor a b)):=.mk fun _ _ _ _ _ _ _ _ _ _ _ R hu hv h=>by
 obtain ⟨t,rfl⟩:=RW.intE hu; obtain ⟨t',rfl⟩:=RW.intE hv
 exact xor_int (h _ _ _ (.refl _) (R.toks _) (by first | exact RW.intK | exact RV.intK))
theorem Opn.iaddI:Opn K n (inplaceOp .Add) (.int a) (.int b) (.int (a+b)):=.mk fun _ _ _ _ _ _ _ _ _ _ _ R hu hv h=>by
 obtain ⟨t,rfl⟩:=RW.intE hu; obtain ⟨t',rfl⟩:=RW.intE hv
 exact PySem.P.iadd_int (h _ _ _ (.refl _) (R.toks _) (by first | exact RW.intK | exact RV.intK))
theorem Opn.isubI:Opn K n (inplaceOp .Sub) (.int a) (.int b) (.int (a - b)):=.mk fun _ _ _ _ _ _ _ _ _ _ _ R hu hv h=>by
 obtain ⟨t,rfl⟩:=RW.intE hu; obtain ⟨t',rfl⟩:=RW.intE hv
 exact PySem.P.isub_int (h _ _ _ (.refl _) (R.toks _) (by first | exact RW.intK | exact RV.intK))
theorem Opn.ishlI (hn:0≤b) (hsz:(Builtin.Int.intBits a:Int)+b≤2 ^ 27):Opn K n (inplaceOp .LShift) (.int a) (.int b) (.int (a*2 ^ b.toNat)):=.mk fun _ _ _ _ _ _ _ _ _ _ _ R hu hv h=>by
 obtain ⟨t,rfl⟩:=RW.intE hu; obtain ⟨t',rfl⟩:=RW.intE hv
 exact ilshift_int hn hsz (h _ _ _ (.refl _) (R.toks _) (by first | exact RW.intK | exact RV.intK))
theorem Opn.iorI:Opn K n (inplaceOp .BitOr) (.int a) (.int b) (.int (Builtin.bitOr a b)):=.mk fun _ _ _ _ _ _ _ _ _ _ _ R hu hv h=>by
 obtain ⟨t,rfl⟩:=RW.intE hu; obtain ⟨t',rfl⟩:=RW.intE hv
 exact ior_int (h _ _ _ (.refl _) (R.toks _) (by first | exact RW.intK | exact RV.intK))
theorem Opn.ixorI:Opn K n (inplaceOp .BitXor) (.int a) (.int b) (.int (Builtin.bitXor a b)):=.mk fun _ _ _ _ _ _ _ _ _ _ _ R hu hv h=>by
 obtain ⟨t,rfl⟩:=RW.intE hu; obtain ⟨t',rfl⟩:=RW.intE hv
 exact ixor_int (h _ _ _ (.refl _) (R.toks _) (by first | exact RW.intK | exact RV.intK))
theorem zi2 (p q:List Nat):(⟨p.toArray⟩:Str)++(⟨q.toArray⟩:Str)=⟨(p++q).toArray⟩:=by
 show Str.append _ _=_
 simp [Str.append]
theorem Opn.addS (hl:p.length+q.length≤sizeLine):Opn K n (binaryOp .Add) (.str p) (.str q) (.str (p++q)):=.mk fun _ _ _ _ _ _ _ _ _ _ _ R hu hv h=>by
 (refine obAE (RW.strE hu) fun _ t zq2=>?_; subst zq2); (refine obAE (RW.strE hv) fun _ t' zq2=>?_; subst zq2)
 refine add_str (fun t' tk=>h _ _ _ (.refl _) (R.toks _) (by simp only [RW]; exact ⟨by simpa using hl,_,by rw [zi2]⟩)) ?_
 simpa [Str.length] using hl
theorem Opn.iaddS (hl:p.length+q.length≤sizeLine):Opn K n (inplaceOp .Add) (.str p) (.str q) (.str (p++q)):=.mk fun _ _ _ _ _ _ _ _ _ _ _ R hu hv h=>by
 (refine obAE (RW.strE hu) fun _ t zq2=>?_; subst zq2); (refine obAE (RW.strE hv) fun _ t' zq2=>?_; subst zq2)
 refine iadd_str (fun t' tk=>h _ _ _ (.refl _) (R.toks _) (by simp only [RW]; exact ⟨by simpa using hl,_,by rw [zi2]⟩)) ?_
 simpa [Str.length] using hl
end ops
end
end Mine
namespace Mine
section
variable {K:Kc} {n:Nat} {env:Env} {ρ:Lo} {σ σ' σ₁ σ₂ σ₃:List (Addr × O)} {g:Gh} {s:Shared}
structure LstR (g:Gh) (h:Heap) (xs:List W) (u:Value) (a:Addr) (vs:Array Value) (n:Nat):Prop where
 eq:u = .ref a
 tag:g.tag a=some .base
 ob:h.get? a=some { cls:=.type "list",dict:=none,data:=.seq vs n,slots := #[] }
 sz:xs.length≤sizeLine∧vs.size=xs.length
 ws:RWs g xs vs.toList
structure TupR (g:Gh) (h:Heap) (xs:List W) (u:Value) (a:Addr) (vs:Array Value):Prop where
 eq:u = .ref a
 tag:g.tag a=some .base
 ob:h.IsTuple a vs
 sz:xs.length≤sizeLine∧vs.size=xs.length
 ws:RWs g xs vs.toList
theorem RW.list {xs:List W} {u:Value} (R:Rep K g env ρ σ s) (h:RW g (.list xs) u) : ∃ a vs n,LstR g s.heap xs u a vs n:=by
 simp only [RW] at h
 (refine zi4 h fun a vs zq2 ht zq4 hz hw=>?_; subst zq2; obtain ⟨n,e⟩:=zq4)
 exact ⟨a,vs,n,rfl,ht,by rw [R.fix a (.inl ht),e],⟨hz,by simpa using hw.length⟩,hw⟩
theorem RW.tuple {xs:List W} {u:Value} (R:Rep K g env ρ σ s) (h:RW g (.tuple xs) u) : ∃ a vs,TupR g s.heap xs u a vs:=by
 simp only [RW] at h
 (refine zi4 h fun a vs zq2 ht zq4 hz hw=>?_; subst zq2; obtain ⟨hc,n,hd⟩:=zq4)
 exact ⟨a,vs,rfl,ht,⟨_,R.fix a (.inl ht),hc,n,hd⟩,⟨hz,by simpa using hw.length⟩,hw⟩
theorem isL {h:Heap} {a:Addr} {vs:Array Value} {n:Nat} (e:h.get? a=some { cls:=.type "list",dict:=none,data:=.seq vs n,slots := #[] }):h.IsList a vs:=⟨_,e,rfl,n,rfl⟩
theorem Rep.newL (R:Rep K g env ρ σ s) {xs:List W} {us:List Value} (h:RWs g xs us) (hz:xs.length≤sizeLine) (n:Nat:=0) :
  ∃ g',g.le g'∧RW g' (.list xs) (.ref s.heap.objs.size)∧Rep K g' env ρ σ { s with heap:=s.heap.push { cls:=.type "list",dict:=none,data:=.seq us.toArray n,slots := #[] } }:=by
 refine zf9 (R.base { cls:=.type "list",dict:=none,data:=.seq us.toArray n,slots := #[] } rfl) fun g' l ht hc R'=>?_
 exact ⟨g',l,by simp only [RW]; exact ⟨_,us.toArray,rfl,ht,⟨n,hc⟩,hz,RWs.mono l.leB (by simpa using h)⟩,R'⟩
theorem yd2 (k:Nat) (p:Array Nat) (acc:Array Nat):((List.replicate k p).foldl (· ++ ·) acc)=acc++(List.replicate k p.toList).flatten.toArray:=by
 induction k generalizing acc with
 | zero=>simp
 | succ k ih=>rw [List.replicate_succ,List.foldl_cons,ih]; apply Array.toList_inj.mp; simp [List.replicate_succ]
noncomputable def repS (p:List Nat) (k:Int):List Nat:=(List.replicate k.toNat p).flatten
theorem zp2 (p:List Nat) (k:Int):(repS p k).length=p.length*k.toNat:=by
 unfold repS; simp [Nat.mul_comm]
theorem yc4 (p:List Nat) (k:Int):Txt.mul ⟨p.toArray⟩ k=⟨(repS p k).toArray⟩:=by
 unfold Txt.mul repS
 by_cases h1:k<1
 ·rw [if_pos h1]
  have:k.toNat=0:=by lia
  rw [this]; rfl
 ·rw [if_neg h1]
  by_cases h2:(k==1||(⟨p.toArray⟩:Str).length==0)=true
  ·rw [if_pos h2]
   rcases Bool.or_eq_true_iff.mp h2 with h3 | h3
   ·have:k=1:=by simpa using h3
    subst this
    simp
   ·have:p=[]:=by
     simpa [Str.length] using h3
    subst this
    simp
  ·rw [if_neg h2,yd2]; simp
theorem Opn.mulS {p:List Nat} {k:Int} (hk:k<2 ^ 25) (hlo : -(2 ^ 25)≤k) (hl:p.length*k.toNat≤2 ^ 24):Opn K n (binaryOp .Mult) (.str p) (.int k) (.str (repS p k)):=.mk fun _ _ _ _ _ _ _ _ _ _ _ R hu hv h=>by
 simp only [RW] at hu hv; (refine obAE hu fun _ t zq2=>?_; subst zq2); obtain ⟨t',rfl⟩:=hv
 refine SB.mul ⟨?_,fun h1 _=>?_,fun h1 _=>?_⟩ (fun t' tk=>h _ _ _ (.refl _) (R.toks _) (by simp only [RW]; exact ⟨by rw [zp2,sizeLine_eq]; assumption,_,by rw [yc4]⟩))
 ·have h1 : ¬ k < -(2 ^ 63:Int):=by lia
  have h2 : ¬ k≥(2 ^ 63:Int):=by lia
  rw [decide_eq_false h1,decide_eq_false h2]; rfl
 ·have e:(⟨p.toArray⟩:Str).length=p.length:=by simp [Str.length]
  rw [e]
  intro hc
  have h3:((p.length:Int))*k≤2 ^ 24:=by
   have:((p.length*k.toNat:Nat):Int)≤2 ^ 24:=by exact_mod_cast hl
   rw [Int.natCast_mul,Int.toNat_of_nonneg (by lia)] at this
   exact this
  have h4:(p.length:Int)≤(2 ^ 63 - 1)/k:=by
   rw [Int.le_ediv_iff_mul_le (by lia)]
   lia
  lia
 ·have e:(⟨p.toArray⟩:Str).length=p.length:=by simp [Str.length]
  rw [e]
  refine decide_eq_false ?_
  rw [sizeLine_eq]; lia
theorem zw1 {xs:List W} {k:Nat} {x:W} {vs:Array Value} (h:RWs g xs vs.toList) (e:xs[k]? = some x) : ∃ v,vs[k]? = some v∧RW g x v:=by
 refine obEA (h.get k e) fun v e1 e2=>?_
 exact ⟨v,by simpa using e1,e2⟩
theorem Opn.addL {xs ys:List W} (hl:xs.length+ys.length≤sizeLine):Opn K n (binaryOp .Add) (.list xs) (.list ys) (.list (xs++ys)):=.mk fun A E s Q g env ρ σ u v _ R hu hv h=>by
 (refine zd6 (RW.list R hu) fun a vs n1 zq3=>?_; obtain ⟨rfl,_,e1,z1,w1⟩:=zq3)
 (refine zd6 (RW.list R hv) fun b ws n2 zq3=>?_; obtain ⟨rfl,_,e2,z2,w2⟩:=zq3)
 refine concat_meets ⟨_,e1,rfl⟩ ⟨_,e2,rfl⟩ noFill_list_add seq_list_add PySem.F.slot_list_add PySem.F.entry_list_add (PySem.F.args_list_add_2 _ _)
  (list_addW a b vs ws n1 n2 none none #[] #[] (by lia)) ⟨e1,e2,?_⟩
 refine zd4 (R.newL (w1.append w2) (by simpa using hl)) fun g' l hw R'=>?_
 refine h _ _ _ l ?_ hw
 have e:vs++ws=(vs.toList++ws.toList).toArray:=by simp
 rw [e]; exact R'
end
end Mine
namespace Mine
section
variable {K:Kc} {n:Nat} {env:Env} {ρ:Lo} {σ σ' σ₁ σ₂ σ₃:List (Addr × O)} {g:Gh} {s:Shared}
theorem Ev.cmp {op:CmpOp} {l r:Expr} {pos} {x y:W} {b:Bool} (h1:Ev K n env ρ l σ (.w x) σ₁) (h2:Ev K n env ρ r σ₁ (.w y) σ₂) (ho:Opn K n (compareOp op) x y (.bool b))
  (hm:behindInMarks op r=false:=by with_unfolding_all rfl):Ev K n env ρ (.Compare l [op] [r] pos) σ (.w (.bool b)) σ₂:=.mk fun _ _ _ _ _ F R h =>
 wpAny_Compare1 (h1 F R fun _ _ _ l1 R1 r1=>h2 F R1 fun _ _ _ l2 R2 r2=>ho F R2 (RW.mono l2.leB r1) r2 fun g3 s3 r l3 R3 r3=>h g3 s3 r ((l1.trans l2).trans l3) R3 r3) hm
theorem zD1 (p q:List Nat):((⟨p.toArray⟩:Str)==⟨q.toArray⟩)=decide (p=q):=by
 by_cases h:p=q
 ·subst h; simp
 ·rw [decide_eq_false h,beq_eq_false_iff_ne]
  intro e; exact h (by simpa using congrArg (fun x=>Array.toList (Str.cps x)) e)
section
variable {a b:Int} {p q:List Nat}
theorem Opn.eqI:Opn K n (compareOp .Eq) (.int a) (.int b) (.bool (decide (a=b))):=.mk fun _ _ _ _ _ _ _ _ _ _ _ R hu hv h=>by
 obtain ⟨t,rfl⟩:=RW.intE hu; obtain ⟨t',rfl⟩:=RW.intE hv
 exact eq_int (h _ _ _ (.refl _) R (by simp only [RW]; by_cases e:a=b <;> simp [e]))
theorem Opn.neI:Opn K n (compareOp .NotEq) (.int a) (.int b) (.bool (!decide (a=b))):=.mk fun _ _ _ _ _ _ _ _ _ _ _ R hu hv h=>by
 obtain ⟨t,rfl⟩:=RW.intE hu; obtain ⟨t',rfl⟩:=RW.intE hv
 exact ne_int (h _ _ _ (.refl _) R (by simp only [RW]; by_cases e:a=b <;> simp [e]))
theorem Opn.ltI:Opn K n (compareOp .Lt) (.int a) (.int b) (.bool (decide (a<b))):=.mk fun _ _ _ _ _ _ _ _ _ _ _ R hu hv h=>by
 obtain ⟨t,rfl⟩:=RW.intE hu; obtain ⟨t',rfl⟩:=RW.intE hv
 exact lt_int (h _ _ _ (.refl _) R (by simp only [RW]))
theorem Opn.gtI:Opn K n (compareOp .Gt) (.int a) (.int b) (.bool (decide (b<a))):=.mk fun _ _ _ _ _ _ _ _ _ _ _ R hu hv h=>by
 obtain ⟨t,rfl⟩:=RW.intE hu; obtain ⟨t',rfl⟩:=RW.intE hv
 exact gt_int (h _ _ _ (.refl _) R (by simp only [RW]))
theorem Opn.eqS:Opn K n (compareOp .Eq) (.str p) (.str q) (.bool (decide (p=q))):=.mk fun _ _ _ _ _ _ _ _ _ _ _ R hu hv h=>by
 (refine obAE (RW.strE hu) fun _ t zq2=>?_; subst zq2); (refine obAE (RW.strE hv) fun _ t' zq2=>?_; subst zq2)
 exact eq_str (h _ _ _ (.refl _) R (by simp only [RW]; rw [zD1]))
theorem Opn.neS:Opn K n (compareOp .NotEq) (.str p) (.str q) (.bool (!decide (p=q))):=.mk fun _ _ _ _ _ _ _ _ _ _ _ R hu hv h=>by
 (refine obAE (RW.strE hu) fun _ t zq2=>?_; subst zq2); (refine obAE (RW.strE hv) fun _ t' zq2=>?_; subst zq2)
 exact ne_str (h _ _ _ (.refl _) R (by simp only [RW]; rw [bne,zD1]))
end
noncomputable def weq:W→W→Option Bool
 | .int a,.int b=>some (decide (a=b))
 | .str a,.str b=>some (decide (a=b))
 | _,_=>none
noncomputable def wseq:List W→List W→Option Bool
 | [],[]=>some true
 | x::xs,y::ys=>match weq x y,wseq xs ys with
  | some b,some c=>some (b&&c)
  | _,_=>none
 | _,_=>some false
theorem yb1 {x y:W} {u v:Value} {b:Bool} {A:Around} (h:weq x y=some b) (hu:RW g x u) (hv:RW g y v):EqAt A s u v b:=by
 cases x <;> cases y <;> simp only [weq] at h <;> try cases h
 ·obtain ⟨t,rfl⟩:=RW.intE hu; obtain ⟨t',rfl⟩:=RW.intE hv
  rename_i a b
  have:=EqAt.int_int (A:=A) (s:=s) a t b t'
  rwa [show (a==b)=decide (a=b) by by_cases e:a=b <;> simp [e]] at this
 ·(refine obAE (RW.strE hu) fun _ t zq2=>?_; subst zq2); (refine obAE (RW.strE hv) fun _ t' zq2=>?_; subst zq2)
  rename_i p q _ _
  have:=EqAt.str_str (A:=A) (s:=s) ⟨p.toArray⟩ t ⟨q.toArray⟩ t'
  rwa [zD1] at this
theorem zs8 (f:Nat→Bool) (k:Nat):(List.range (k+1)).all f=(f 0&&(List.range k).all fun j=>f (j+1)):=by
 rw [List.range_succ_eq_map,List.all_cons,List.all_map]; rfl
theorem zC4 {A:Around} : ∀ {xs ys:List W} {us vs:List Value} {b:Bool},wseq xs ys=some b→RWs g xs us→RWs g ys vs→us.length=vs.length →
  ∃ e:Nat→Bool,(∀ j (h1:j<us.length) (h2:j<vs.length),EqAt A s us[j] vs[j] (e j))∧(List.range us.length).all e=b
 | [],[],us,vs,b,h,hu,hv,_=>by
  simp only [RWs] at hu hv; subst hu hv
  simp only [wseq] at h; cases h
  exact ⟨fun _=>true,fun j h1=>absurd h1 (by simp),rfl⟩
 | x::xs,y::ys,us,vs,b,h,hu,hv,hl=>by
  simp only [RWs] at hu hv
  obtain ⟨u,us,rfl,hu1,hu2⟩:=hu
  obtain ⟨v,vs,rfl,hv1,hv2⟩:=hv
  simp only [wseq] at h
  split at h
  ·rename_i c d e1 e2
   cases h
   obtain ⟨e,he,hb⟩:=zC4 e2 hu2 hv2 (by simpa using hl)
   refine ⟨fun j=>match j with | 0=>c | j+1=>e j,fun j h1 h2=>?_,?_⟩
   ·cases j with
    | zero=>exact yb1 e1 hu1 hv1
    | succ j=>exact he j (by simpa using h1) (by simpa using h2)
   ·rw [List.length_cons,zs8]; simp only; rw [hb]
  ·cases h
 | [],y::ys,us,vs,b,h,hu,hv,hl=>by
  simp only [RWs] at hu hv; subst hu; (refine zc7 hv fun v vs zq2 _=>?_; subst zq2); simp at hl
 | x::xs,[],us,vs,b,h,hu,hv,hl=>by
  simp only [RWs] at hu hv; subst hv; (refine zc7 hu fun v vs zq2 _=>?_; subst zq2); simp at hl
theorem zu7 : ∀ {xs ys:List W} {b:Bool},wseq xs ys=some b→xs.length≠ys.length→b=false
 | [],[],_,_,hn=>absurd rfl hn
 | [],_::_,_,h,_=>by simp only [wseq] at h; cases h; rfl
 | _::_,[],_,h,_=>by simp only [wseq] at h; cases h; rfl
 | x::xs,y::ys,b,h,hn=>by
  simp only [wseq] at h
  split at h
  ·rename_i c d e1 e2
   cases h
   have:=zu7 e2 (by simpa using hn)
   simp [this]
  ·cases h
theorem Fit.lt {A:Around} (F:Fit K n A):A.units<cLine:=by have:=F.units; show A.units<9900; lia
theorem zZ8 {A:Around} {E:Value→Shared→Prop} {Q:Value→Shared→Prop} {xs ys:List W} {a b:Addr} {us vs:Array Value} {c:Bool} (hu:A.units<cLine) (ha:s.heap.IsList a us) (hb:s.heap.IsList b vs)
  (w1:RWs g xs us.toList) (w2:RWs g ys vs.toList) (hc:wseq xs ys=some c) (h:Q (.bool c) s):wpAny (KM K) A (compareOp .Eq (.ref a) (.ref b)) Q E s:=by
 by_cases hl:us.size=vs.size
 ·refine obEA (zC4 (A:=A.in1) (s:=s) hc w1 w2 (by simpa using hl)) fun e he hb'=>?_
  exact eq_listAt ha hb hl hu (fun j h1 h2=>by have q:=he j (by simpa using h1) (by simpa using h2); rwa [Array.getElem_toList,Array.getElem_toList] at q) (by rw [show us.size=us.toList.length by simp,hb']; exact h)
 ·have e:c=false:=zu7 hc (by have:=w1.length; have:=w2.length; simp at *; lia)
  subst e
  exact eq_list_lengthsAt ha hb (by simpa using hl) hu h
theorem zX3 {A:Around} {E:Value→Shared→Prop} {Q:Value→Shared→Prop} {xs ys:List W} {a b:Addr} {us vs:Array Value} {c:Bool} (hu:A.units<cLine) (ha:s.heap.IsList a us) (hb:s.heap.IsList b vs)
  (w1:RWs g xs us.toList) (w2:RWs g ys vs.toList) (hc:wseq xs ys=some c) (h:Q (.bool (!c)) s):wpAny (KM K) A (compareOp .NotEq (.ref a) (.ref b)) Q E s:=by
 by_cases hl:us.size=vs.size
 ·refine obEA (zC4 (A:=A.in1) (s:=s) hc w1 w2 (by simpa using hl)) fun e he hb'=>?_
  exact RcNeAt.lists ha hb hl hu (fun j h1 h2=>by have q:=he j (by simpa using h1) (by simpa using h2); rwa [Array.getElem_toList,Array.getElem_toList] at q) K.prog K.w E Q (by rw [show us.size=us.toList.length by simp,hb']; exact h)
 ·have e:c=false:=zu7 hc (by have:=w1.length; have:=w2.length; simp at *; lia)
  subst e
  exact RcNeAt.lists_lengths ha hb (by simpa using hl) hu K.prog K.w E Q h
theorem Opn.eqL {xs ys:List W} {c:Bool} (hc:wseq xs ys=some c):Opn K n (compareOp .Eq) (.list xs) (.list ys) (.bool c):=.mk fun _ _ _ _ _ _ _ _ _ _ F R hu hv h=>by
 (refine zd6 (RW.list R hu) fun a vs n1 zq3=>?_; obtain ⟨rfl,_,e1,z1,w1⟩:=zq3)
 (refine zd6 (RW.list R hv) fun b ws n2 zq3=>?_; obtain ⟨rfl,_,e2,z2,w2⟩:=zq3)
 exact zZ8 F.lt (isL e1) (isL e2) w1 w2 hc (h _ _ _ (.refl _) R (by simp only [RW]))
noncomputable def wmem (x:W):List W→Option Bool
 | []=>some false
 | y::ys=>match weq y x,wmem x ys with
  | some b,some c=>some (b||c)
  | _,_=>none
noncomputable def isIt:W→Value→Bool
 | .int a,.int b _=>decide (b=a)
 | .str p,.str q _=>decide (q.cps.toList=p)
 | _,_=>false
theorem zV8 {x y:W} {u v:Value} {b:Bool} {A:Around} (h:weq y x=some b) (hu:RW g x u) (hv:RW g y v):isIt x v=b∧EqAt A s v u b:=by
 refine ⟨?_,yb1 h hv hu⟩
 cases x <;> cases y <;> simp only [weq] at h <;> try cases h
 ·obtain ⟨t,rfl⟩:=RW.intE hu; obtain ⟨t',rfl⟩:=RW.intE hv
  rfl
 ·(refine obAE (RW.strE hu) fun _ t zq2=>?_; subst zq2); (refine obAE (RW.strE hv) fun _ t' zq2=>?_; subst zq2)
  simp [isIt]
theorem zC6 {A:Around} {x:W} {u:Value} (hu:RW g x u) : ∀ {ys:List W} {vs:List Value} {b:Bool},wmem x ys=some b→RWs g ys vs →
  (∀ y∈vs,EqAt A s y u (isIt x y))∧vs.any (isIt x)=b
 | [],vs,b,h,hv=>by
  simp only [RWs] at hv; subst hv; simp only [wmem] at h; cases h
  exact ⟨fun _ h=>(nomatch h),rfl⟩
 | y::ys,vs,b,h,hv=>by
  simp only [RWs] at hv
  (refine zb2 hv fun v vs zq2 h1 h2=>?_; subst zq2)
  simp only [wmem] at h
  split at h
  ·rename_i c d e1 e2
   cases h
   obtain ⟨he,hb⟩:=zC6 hu e2 h2
   (have zq:=zV8 (A:=A) (s:=s) e1 hu h1; have k1:=zq.1; have k2:=zq.2)
   refine ⟨fun z hz=>?_,?_⟩
   ·rcases List.mem_cons.mp hz with rfl | hz
    ·rw [k1]; exact k2
    ·exact he z hz
   ·rw [List.any_cons,hb,k1]
  ·cases h
theorem Opn.inL {x:W} {ys:List W} {c:Bool} (hc:wmem x ys=some c):Opn K n (compareOp .In) x (.list ys) (.bool c):=.mk fun A E s Q g env ρ σ u v F R hu hv h=>by
 (refine zd6 (RW.list R hv) fun b ws n2 zq3=>?_; obtain ⟨rfl,_,e2,z2,w2⟩:=zq3)
 (have zq:=zC6 (A:=A.in1) (s:=s) hu hc w2; have he:=zq.1; have hb:=zq.2)
 exact in_listAt (isIt x) (isL e2) (fun y hy=>he y (by simpa using hy)) (by
  rw [show ws.any (isIt x)=ws.toList.any (isIt x) by simp,hb]
  exact h _ _ _ (.refl _) R (by simp only [RW]))
theorem Opn.notInL {x:W} {ys:List W} {c:Bool} (hc:wmem x ys=some c):Opn K n (compareOp .NotIn) x (.list ys) (.bool (!c)):=.mk fun A E s Q g env ρ σ u v F R hu hv h=>by
 (refine zd6 (RW.list R hv) fun b ws n2 zq3=>?_; obtain ⟨rfl,_,e2,z2,w2⟩:=zq3)
 (have zq:=zC6 (A:=A.in1) (s:=s) hu hc w2; have he:=zq.1; have hb:=zq.2)
 exact notIn_listAt (isIt x) (isL e2) (fun y hy=>he y (by simpa using hy)) (by
  rw [show ws.any (isIt x)=ws.toList.any (isIt x) by simp,hb]
  exact h _ _ _ (.refl _) R (by simp only [RW]))
theorem Opn.neL {xs ys:List W} {c:Bool} (hc:wseq xs ys=some c):Opn K n (compareOp .NotEq) (.list xs) (.list ys) (.bool (!c)):=.mk fun A E s Q g env ρ σ u v F R hu hv h=>by
 (refine zd6 (RW.list R hu) fun a vs n1 zq3=>?_; obtain ⟨rfl,_,e1,z1,w1⟩:=zq3)
 (refine zd6 (RW.list R hv) fun b ws n2 zq3=>?_; obtain ⟨rfl,_,e2,z2,w2⟩:=zq3)
 exact zX3 F.lt (isL e1) (isL e2) w1 w2 hc (h _ _ _ (.refl _) R (by simp only [RW]))
end
end Mine
namespace Mine
section
variable {K:Kc} {n:Nat} {env:Env} {ρ:Lo} {σ σ' σ₁ σ₂ σ₃:List (Addr × O)} {g:Gh} {s:Shared}
noncomputable def zj7:W→Option Bool
 | .none=>some false
 | .bool b=>some b
 | .int i=>some (!decide (i=0))
 | .str []=>some false
 | .str (_::_)=>some true
 | .list []=>some false
 | .list (_::_)=>some true
 | _=>none
theorem zG0 {A:Around} {E:Value→Shared→Prop} {Q:Bool→Shared→Prop} {x:W} {u:Value} {b:Bool} (R:Rep K g env ρ σ s) (hb:zj7 x=some b) (hu:RW g x u)
  (h : ∀ tk,Q b { s with toks:=tk }):wpAny (KM K) A (truthy u) Q E s:=by
 have h0:=h s.toks
 have hs:({ s with toks:=s.toks }:Shared)=s:=rfl
 rw [hs] at h0
 cases x with
 | none=>simp only [RW] at hu; subst hu; simp only [zj7] at hb; cases hb; exact truthy_none h0
 | bool c=>simp only [RW] at hu; subst hu; simp only [zj7] at hb; cases hb; exact wpAny_truthy_bool h0
 | int i =>
  simp only [RW] at hu; obtain ⟨t,rfl⟩:=hu; simp only [zj7] at hb; cases hb
  refine truthy_int ?_
  rwa [show (i != 0) = !decide (i=0) by by_cases e:i=0 <;> simp [e]]
 | str p =>
  simp only [RW] at hu; (refine obAE hu fun hz t zq2=>?_; subst zq2)
  refine PySem.P.truthy_str (by rw [sizeLine_eq] at hz; simp [Str.length]; lia) ?_
  cases p with
  | nil=>simp only [zj7] at hb; cases hb; exact h _
  | cons c p =>
   simp only [zj7] at hb; cases hb
   rw [show (((⟨(c::p).toArray⟩:Str).length:Int) != 0)=true by simp [Str.length]; lia]
   exact h _
 | list xs =>
  (refine zd6 (RW.list R hu) fun a vs k zq3=>?_; obtain ⟨rfl,_,e1,z1,w1⟩:=zq3)
  refine wpAny_truthy_list (isL e1) (by have:=z1.1; rw [sizeLine_eq] at this; lia) ?_
  cases xs with
  | nil =>
   simp only [zj7] at hb; cases hb
   rw [show (!vs.isEmpty)=false by have:=z1.2; simp at this; simp [this]]
   exact h _
  | cons x xs =>
   simp only [zj7] at hb; cases hb
   rw [show (!vs.isEmpty)=true by have:=z1.2; simp at this; simp; intro e; simp [e] at this]
   exact h _
 | tuple xs=>simp only [zj7] at hb; cases hb
 | glob v=>simp only [zj7] at hb; cases hb
theorem Ts.val {e:Expr} {x:W} {b:Bool} (h1:Ev K n env ρ e σ (.w x) σ') (hb:zj7 x=some b)
  (he : ∀ whole,isTrue e env whole=(do let v ← whole; standAt e.pos; holding [v] (truthy v)):=by intro _; rfl):Ts K n env ρ e σ b σ':=.mk fun _ _ _ _ _ F R h =>
 wpAny_isTrue_value (h1 F R fun _ _ _ l1 R1 r1=>zG0 R1 hb r1 fun tk=>h _ _ l1 (R1.toks _)) (he _)
theorem Ts.cmp {op:CmpOp} {l r:Expr} {pos} {x y:W} {b:Bool} (h1:Ev K n env ρ l σ (.w x) σ₁) (h2:Ev K n env ρ r σ₁ (.w y) σ₂) (ho:Opn K n (compareOp op) x y (.bool b))
  (hm:behindInMarks op r=false:=by with_unfolding_all rfl):Ts K n env ρ (.Compare l [op] [r] pos) σ b σ₂:=.mk fun _ _ _ _ _ F R h =>
 wpAny_isTrue_Compare1 (h1 F R fun _ _ _ l1 R1 r1=>h2 F R1 fun _ _ _ l2 R2 r2=>ho F R2 (RW.mono l2.leB r1) r2 fun g3 s3 r l3 R3 r3=>by
  simp only [RW] at r3; subst r3; exact wpAny_truthy_bool (h g3 s3 ((l1.trans l2).trans l3) R3)) hm
theorem Ts.not {e:Expr} {pos} {b:Bool} (h1:Ts K n env ρ e σ b σ'):Ts K n env ρ (.UnaryOp .Not e pos) σ (!b) σ':=.mk fun _ _ _ _ _ F R h =>
 wpAny_isTrue_Not (h1 F R fun _ _ l1 R1=>h _ _ l1 R1)
structure TsL (K:Kc) (n:Nat) (env:Env) (ρ:Lo) (op:BoolOp) (es:List Expr) (σ:List (Addr × O)) (b:Bool) (σ':List (Addr × O))  : Prop where
 go :   ∀ ⦃A:Around⦄ ⦃E:Value→Shared→Prop⦄ ⦃s:Shared⦄ ⦃Q:Bool→Shared→Prop⦄ ⦃g:Gh⦄,Fit K n A→Rep K g env ρ σ s →
  (∀ g' s',g.le g'→Rep K g' env ρ σ' s'→Q b s')→wpAny (KM K) A (allTrue op es env) Q E s
noncomputable instance {K:Kc} {n:Nat} {env:Env} {ρ:Lo} {op:BoolOp} {es:List Expr} {σ:List (Addr × O)} {b:Bool} {σ':List (Addr × O)}:CoeFun (TsL K n env ρ op es σ b σ') (fun _ =>   ∀ ⦃A:Around⦄ ⦃E:Value→Shared→Prop⦄ ⦃s:Shared⦄ ⦃Q:Bool→Shared→Prop⦄ ⦃g:Gh⦄,Fit K n A→Rep K g env ρ σ s →
  (∀ g' s',g.le g'→Rep K g' env ρ σ' s'→Q b s')→wpAny (KM K) A (allTrue op es env) Q E s):=⟨fun h=>h.go⟩
theorem TsL.and_nil:TsL K n env ρ .And [] σ true σ:=.mk fun _ _ _ _ _ F R h=>wpAny_allTrue_And_nil (h _ _ (.refl _) R)
theorem TsL.or_nil:TsL K n env ρ .Or [] σ false σ:=.mk fun _ _ _ _ _ F R h=>wpAny_allTrue_Or_nil (h _ _ (.refl _) R)
theorem TsL.and {e:Expr} {es:List Expr} {b c:Bool} (h1:Ts K n env ρ e σ b σ₁) (h2:b=true→TsL K n env ρ .And es σ₁ c σ₂) (hs:b=false→σ₂=σ₁∧c=false) :
  TsL K n env ρ .And (e::es) σ c σ₂:=.mk fun _ _ _ _ _ F R h=>wpAny_allTrue_And_cons (h1 F R fun _ _ l1 R1=>by
   cases b with
   | true=>exact h2 rfl F R1 fun _ _ l2 R2=>h _ _ (l1.trans l2) R2
   | false=>(have zq:=hs rfl; have zq0:=zq.1; have zq1:=zq.2; subst zq0; subst zq1); exact h _ _ l1 R1)
theorem TsL.or {e:Expr} {es:List Expr} {b c:Bool} (h1:Ts K n env ρ e σ b σ₁) (h2:b=false→TsL K n env ρ .Or es σ₁ c σ₂) (hs:b=true→σ₂=σ₁∧c=true) :
  TsL K n env ρ .Or (e::es) σ c σ₂:=.mk fun _ _ _ _ _ F R h=>wpAny_allTrue_Or_cons (h1 F R fun _ _ l1 R1=>by
   cases b with
   | false=>exact h2 rfl F R1 fun _ _ l2 R2=>h _ _ (l1.trans l2) R2
   | true=>(have zq:=hs rfl; have zq0:=zq.1; have zq1:=zq.2; subst zq0; subst zq1); exact h _ _ l1 R1)
theorem Ts.boolop {op:BoolOp} {es:List Expr} {pos} {b:Bool} (h:TsL K n env ρ op es σ b σ'):Ts K n env ρ (.BoolOp op es pos) σ b σ':=.mk fun _ _ _ _ _ F R k =>
 wpAny_isTrue_BoolOp (h F R k)
theorem Ev.ifexp {c a b:Expr} {pos} {t:Bool} {v:V} (h1:Ts K n env ρ c σ t σ₁) (h2:t=true→Ev K n env ρ a σ₁ v σ₂) (h3:t=false→Ev K n env ρ b σ₁ v σ₂) :
  Ev K n env ρ (.IfExp c a b pos) σ v σ₂:=.mk fun _ _ _ _ _ F R h=>wpAny_IfExp (h1 F R fun _ _ l1 R1=>by
   cases t with
   | true=>exact h2 rfl F R1 fun _ _ _ l2 R2 r2=>h _ _ _ (l1.trans l2) R2 r2
   | false=>exact h3 rfl F R1 fun _ _ _ l2 R2 r2=>h _ _ _ (l1.trans l2) R2 r2)
theorem Ev.or2 {a b:Expr} {pos} {x:W} {v:W} {t:Bool} (h1:Ev K n env ρ a σ (.w x) σ₁) (ht:zj7 x=some t) (h2:t=false→Ev K n env ρ b σ₁ (.w v) σ₂) (h3:t=true→σ₂=σ₁∧v=x) :
  Ev K n env ρ (.BoolOp .Or [a,b] pos) σ (.w v) σ₂:=.mk fun _ _ _ _ _ F R h=>wpAny_Or2 (h1 F R fun _ _ _ l1 R1 r1=>zG0 R1 ht r1 fun tk=>by
   cases t with
   | false=>exact h2 rfl F (R1.toks tk) fun _ _ _ l2 R2 r2=>h _ _ _ (l1.trans l2) R2 r2
   | true=>(have zq:=h3 rfl; have zq0:=zq.1; have zq1:=zq.2; subst zq0; subst zq1); exact h _ _ _ l1 (R1.toks tk) r1)
theorem Ev.neg {a:Expr} {pos} {i:Int} (h1:Ev K n env ρ a σ (.w (.int i)) σ₁):Ev K n env ρ (.UnaryOp .USub a pos) σ (.w (.int (-i))) σ₁:=.mk fun _ _ _ _ _ F R h =>
 wpAny_UnaryOp (h1 F R fun _ _ _ l1 R1 r1=>by
  simp only [RV,RW] at r1; obtain ⟨t,rfl⟩:=r1
  exact neg_int (h _ _ _ l1 (R1.toks _) (by first | exact RW.intK | exact RV.intK)))
noncomputable def VW:List W→List V:=List.map V.w
theorem RVs.ws {xs:List W} : ∀ {us:List Value},RVs g (VW xs) us→RWs g xs us:=by
 induction xs with
 | nil=>intro us h; simp only [VW,List.map_nil,RVs] at h; subst h; exact .nil
 | cons x xs ih =>
  intro us h
  simp only [VW,List.map_cons,RVs] at h
  (refine zb2 h fun u r zq2 h1 h2=>?_; subst zq2)
  exact .cons h1 (ih h2)
noncomputable abbrev EvW (K:Kc) (n:Nat) (env:Env) (ρ:Lo) (es:List Expr) (σ:List (Addr × O)) (xs:List W) (σ':List (Addr × O)):Prop:=Evs K n env ρ es σ (VW xs) σ'
theorem EvW.nil:EvW K n env ρ [] σ [] σ:=Evs.nil
theorem EvW.cons {e:Expr} {es:List Expr} {x:W} {xs:List W} (h1:Ev K n env ρ e σ (.w x) σ₁) (h2:EvW K n env ρ es σ₁ xs σ')
  (he:starEach (e::es) env=(false,eval e env)::starEach es env:=by rfl):EvW K n env ρ (e::es) σ (x::xs) σ':=Evs.cons h1 h2 he
theorem Ev.list {es:List Expr} {pos} {xs:List W} (h1:EvW K n env ρ es σ xs σ') (hz:xs.length≤sizeLine:=by decide):Ev K n env ρ (.List es pos) σ (.w (.list xs)) σ':=.mk fun _ _ _ _ _ F R h =>
 List_ (h1 F R fun g1 s1 us l1 R1 r1=>by
  have w:=r1.ws
  refine zd4 (R1.newL w hz) fun g' l hw R'=>?_
  exact wpAny_newList (h _ _ _ (l1.trans l) R' hw) (by rw [w.length]; exact hz))
theorem zs9 {A:Around} {E:Value→Shared→Prop} {value slice:Expr} {pos:Pos} {T id:String} {Q:Value→Shared→Prop} {prog:Program} {w:World}
  (hl:typeLookup (.type T) "__getitem__" = pure (some (.builtin id)))
  (h:wpAny (model prog w) A (eval value env) (fun o s₁=>wpAny (model prog w) A (eval slice env) (fun i s₂=>s₂.TypeIs o T∧wpAny (model prog w) A (getItem o i) Q E s₂) E s₁) E s) :
  wpAny (model prog w) A (eval (.Subscript value slice pos) env) Q E s:=by
 rw [eval_Subscript]
 refine wpAny_bind (wpAny_mono h (fun o s₁ h₁=>wpAny_bind (wpAny_holding (wpAny_mono h₁ (fun i s₂ h₂=>wpAny_bind (wpAny_standAt ?_)) fun _ _ x=>x)))
  fun _ _ x=>x)
 refine wpAny_bind ?_
 rw [getitemInPython_of_ne h₂.1.not_modules]
 refine wpAny_bind (wpAny_specialOf h₂.1 hl ?_)
 have fin : ∀ l:List Value,wpAny (model prog w) A (operate l (getItem o i)) (fun r s₃=>wpAny (model prog w) A (letTemporaryGo value o r >>= fun _=>pure r) Q E s₃) E s₂:=fun l =>
  wpAny_operating (wpAny_mono h₂.2 (fun r s₃ h₃=>wpAny_bind (wpAny_letTemporaryGo (wpAny_pure h₃))) fun _ _ x=>x)
 have fin2:wpAny (model prog w) A (subscripted slice false o i) (fun r s₃=>wpAny (model prog w) A (letTemporaryGo value o r >>= fun _=>pure r) Q E s₃) E s₂:=by
  obtain ⟨l,e⟩ : ∃ l,subscripted slice false o i=operate l (getItem o i):=by
   cases slice with
   | Slice a b c d=>cases c <;> exact ⟨_,rfl⟩
   | _=>exact ⟨_,rfl⟩
  rw [e]
  exact fin l
 first
  | exact wpAny_pure (wpAny_bind fin2)
  | exact wpAny_bind (wpAny_pure (wpAny_bind fin2))
  | exact wpAny_bind fin2
noncomputable def ze1 (v:Option Int) (d n:Nat):Nat:=match v with | none=>d | some i=>if i<0 then (i+n).toNat else min i.toNat n
noncomputable def cut1 {α:Type} (lo hi:Option Int) (xs:List α):List α:=(xs.take (ze1 hi xs.length xs.length)).drop (ze1 lo 0 xs.length)
theorem zl9 {α:Type} (xs:List α) (a b:Nat) (hb:b≤xs.length):((List.range (b - a)).map (a + ·)).filterMap (xs[·]?)=(xs.take b).drop a:=by
 induction a generalizing xs b with
 | zero =>
  simp only [Nat.sub_zero,Nat.zero_add,List.map_id',List.drop_zero]
  induction b generalizing xs with
  | zero=>simp
  | succ b ih =>
   cases xs with
   | nil=>simp at hb
   | cons x xs =>
    rw [List.range_succ_eq_map,List.filterMap_cons]
    simp only [List.getElem?_cons_zero,List.filterMap_map]
    rw [List.take_succ_cons]
    congr 1
    have:=ih xs (by simpa using hb)
    rw [← this]
    congr 1
 | succ a ih =>
  cases xs with
  | nil=>simp at hb; subst hb; simp
  | cons x xs =>
   cases b with
   | zero=>simp
   | succ b =>
    rw [List.take_succ_cons,List.drop_succ_cons, ← ih xs b (by simpa using hb)]
    rw [Nat.add_sub_add_right,List.filterMap_map,List.filterMap_map]
    congr 1
    funext k
    show (x::xs)[a+1+k]? = xs[a+k]?
    rw [show a+1+k=(a+k)+1 by lia,List.getElem?_cons_succ]
theorem zx3 (v:Option Int) (n:Nat):ze1 v n n≤n:=by
 unfold ze1; split
 ·exact Nat.le_refl _
 ·split <;> lia
theorem zm7 (v:Option Int) (d n:Nat):(match v with | none=>(d:Int) | some i=>let i:=if i<0 then i+n else i; if (1:Int)>0 then max 0 (min i n) else max (-1) (min i ((n:Int) - 1)))=(ze1 v d n:Int):=by
 cases v with
 | none=>rfl
 | some i =>
  show (if (1:Int)>0 then max 0 (min (if i<0 then i+n else i) (n:Int)) else _)=((if i<0 then (i+n).toNat else min i.toNat n:Nat):Int)
  rw [if_pos (by decide)]
  by_cases h:i<0
  ·rw [if_pos h,if_pos h,Int.min_eq_left (Int.le_of_lt (by simpa using Int.add_lt_add_right h (n:Int))),Int.toNat_eq_max,Int.max_comm]
  ·rw [if_neg h,if_neg h]
   obtain ⟨m,rfl⟩:=Int.eq_ofNat_of_zero_le (Int.not_lt.mp h)
   rw [Int.toNat_natCast]
   rcases Nat.le_total m n with h1 | h1
   ·rw [Nat.min_eq_left h1,Int.min_eq_left (Int.ofNat_le.mpr h1)]; exact Int.max_eq_right (Int.natCast_nonneg _)
   ·rw [Nat.min_eq_right h1,Int.min_eq_right (Int.ofNat_le.mpr h1)]; exact Int.max_eq_right (Int.natCast_nonneg _)
theorem zW4 (xs:List Nat) (lo hi:Option Int):(Builtin.Str.strSliceIndices lo hi 1 xs.length).filterMap (xs[·]?)=cut1 lo hi xs:=by
 have e : ∀ X Y:Int,X=(ze1 lo 0 xs.length:Int)→Y=(ze1 hi xs.length xs.length:Int)→(sliceRange X Y 1).filterMap (xs[·]?)=cut1 lo hi xs:=by
  rintro _ _ rfl rfl
  rw [sliceRange_one]
  exact zl9 xs _ _ (zx3 _ _)
 exact e _ _ (zm7 lo 0 xs.length) (zm7 hi xs.length xs.length)
theorem zJ1 {α:Type} (vs:Array α) (l:List Nat):(l.filterMap (vs[·]?))=l.filterMap (vs.toList[·]?):=by
 congr 1; funext k; simp
theorem zA0 (vs:Array Value) (lo hi:Option Int):slicePick vs lo hi none=(cut1 lo hi vs.toList).toArray:=by
 unfold slicePick sliceBounds
 rw [zJ1]
 congr 1
 have e : ∀ X Y:Int,X=(ze1 lo 0 vs.toList.length:Int)→Y=(ze1 hi vs.toList.length vs.toList.length:Int)→(sliceRange X Y 1).filterMap (vs.toList[·]?)=cut1 lo hi vs.toList:=by
  rintro _ _ rfl rfl
  rw [sliceRange_one]
  exact zl9 _ _ _ (zx3 _ _)
 exact e _ _ (zm7 lo 0 vs.size) (zm7 hi vs.size vs.size)
theorem zK9 (vs:Array Value) (lo hi:Option Int):slicePick vs lo hi (some 1)=slicePick vs lo hi none:=rfl
theorem zO6 (k:Nat):sliceRange ((k:Int) - 1) (-1) (-1)=(List.range k).map fun j=>k - 1 - j:=by
 unfold sliceRange
 simp only [show ¬ ((-1:Int)>0) by decide,if_false]
 cases k with
 | zero=>rfl
 | succ k =>
  simp only [show (((k+1:Nat):Int) - 1 > -1) by lia,if_true]
  rw [show ((((k+1:Nat):Int) - 1 - -1 - -1 - 1)/(- -1)).toNat=k+1 by simp]
  apply List.map_congr_left
  intro j hj
  have:=List.mem_range.mp hj
  lia
theorem zW7 {α:Type} : ∀ (xs:List α),((List.range xs.length).map fun j=>xs.length - 1 - j).filterMap (xs[·]?)=xs.reverse:=by
 intro xs
 apply List.ext_getElem?
 intro i
 have e:((List.range xs.length).map fun j=>xs.length - 1 - j).filterMap (xs[·]?)=(List.range xs.length).filterMap (fun j=>xs[xs.length - 1 - j]?):=by
  rw [List.filterMap_map]; rfl
 rw [e]
 have e2:(List.range xs.length).filterMap (fun j=>xs[xs.length - 1 - j]?)=(List.range xs.length).filterMap (fun j=>xs.reverse[j]?):=by
  have q : ∀ l:List Nat,(∀ j∈l,j<xs.length)→l.filterMap (fun j=>xs[xs.length - 1 - j]?)=l.filterMap (fun j=>xs.reverse[j]?):=by
   intro l
   induction l with
   | nil=>intro _; rfl
   | cons j l ih =>
    intro hj
    rw [List.filterMap_cons,List.filterMap_cons,ih fun i hi=>hj i (List.mem_cons_of_mem _ hi),List.getElem?_reverse (hj j List.mem_cons_self)]
  exact q _ fun j hj=>List.mem_range.mp hj
 rw [e2]
 have:=zl9 xs.reverse 0 xs.length (by simp)
 simp only [Nat.sub_zero,Nat.zero_add,List.map_id',List.drop_zero] at this
 rw [this,List.take_of_length_le (by simp)]
theorem zY0 (vs:Array Value):slicePick vs none none (some (-1))=vs.toList.reverse.toArray:=by
 unfold slicePick sliceBounds
 rw [zJ1]
 congr 1
 have e : ∀ X Y:Int,X=(vs.toList.length:Int) - 1→Y = -1→(sliceRange X Y (-1)).filterMap (vs.toList[·]?)=vs.toList.reverse:=by
  rintro _ _ rfl rfl
  rw [zO6]; exact zW7 _
 exact e _ _ (by rfl) (by rfl)
theorem ya3 {g:Gh} {xs:List W} {us:List Value} (h:RWs g xs us) (lo hi:Option Int):RWs g (cut1 lo hi xs) (cut1 lo hi us):=by
 have hl:=h.length
 unfold cut1
 rw [hl]
 have ht : ∀ (k:Nat) {xs us},RWs g xs us→RWs g (xs.take k) (us.take k):=by
  intro k
  induction k with
  | zero=>intro xs us h; simpa using RWs.nil
  | succ k ih =>
   intro xs us h
   cases xs with
   | nil=>simp only [RWs] at h; subst h; simpa using RWs.nil
   | cons x xs =>
    simp only [RWs] at h
    (refine zb2 h fun v r zq2 h1 h2=>?_; subst zq2)
    exact RWs.cons h1 (ih h2)
 have hd : ∀ (k:Nat) {xs us},RWs g xs us→RWs g (xs.drop k) (us.drop k):=by
  intro k
  induction k with
  | zero=>intro xs us h; simpa using h
  | succ k ih =>
   intro xs us h
   cases xs with
   | nil=>simp only [RWs] at h; subst h; simpa using RWs.nil
   | cons x xs =>
    simp only [RWs] at h
    (refine zb2 h fun v r zq2 h1 h2=>?_; subst zq2)
    simpa using ih h2
 exact hd _ (ht _ h)
theorem zF6 {α:Type} (lo hi:Option Int) (xs:List α):(cut1 lo hi xs).length≤xs.length:=by
 unfold cut1; simp; lia
theorem RWs.reverse {g:Gh} : ∀ {xs us},RWs g xs us→RWs g xs.reverse us.reverse
 | [],us,h=>by simp only [RWs] at h; subst h; simpa using RWs.nil
 | x::xs,us,h=>by
  simp only [RWs] at h
  (refine zb2 h fun v r zq2 h1 h2=>?_; subst zq2)
  simpa using (RWs.reverse h2).append (RWs.cons h1 RWs.nil)
noncomputable def getW (xs:List W) (k:Int):Option W:=if k<0 then (if -(xs.length:Int)≤k then xs[(k+xs.length).toNat]? else none) else xs[k.toNat]?
theorem Ev.idxL {v i:Expr} {pos} {xs:List W} {k:Int} {x:W} (h1:Ev K n env ρ v σ (.w (.list xs)) σ₁) (h2:Ev K n env ρ i σ₁ (.w (.int k)) σ₂) (hx:getW xs k=some x) :
  Ev K n env ρ (.Subscript v i pos) σ (.w x) σ₂:=.mk fun _ _ _ _ _ F R h =>
 zs9 list_getitem_lookup (h1 F R fun _ _ _ l1 R1 r1=>h2 F R1 fun g2 s2 _ l2 R2 r2=>by
  (refine zd6 (RW.list R2 (RW.mono l2.leB r1)) fun a vs m zq3=>?_; obtain ⟨rfl,_,e1,z1,w1⟩:=zq3)
  simp only [RV,RW] at r2; obtain ⟨t,rfl⟩:=r2
  have hz:=z1.1
  rw [sizeLine_eq] at hz
  refine ⟨(isL e1).typeIs,?_⟩
  unfold getW at hx
  by_cases hk:k<0
  ·rw [if_pos hk] at hx
   split at hx
   ·rename_i hk2
    refine obEA (zw1 w1 hx) fun v e2 r=>?_
    exact wpAny_getItem_list_neg (isL e1) hk (by lia) (by lia) (by rw [z1.2]; exact e2) (h _ _ _ (l1.trans l2) R2 r)
   ·cases hx
  ·rw [if_neg hk] at hx
   refine obEA (zw1 w1 hx) fun v e2 r=>?_
   have hlt:k.toNat<xs.length:=(List.getElem?_eq_some_iff.mp hx).1
   exact wpAny_getItem_list (isL e1) (by lia) (by lia) e2 (h _ _ _ (l1.trans l2) R2 r))
noncomputable def getS (p:List Nat) (k:Int):Option Nat:=if k<0 then (if -(p.length:Int)≤k then p[(k+p.length).toNat]? else none) else p[k.toNat]?
theorem Ev.idxS {v i:Expr} {pos} {p:List Nat} {k:Int} {c:Nat} (h1:Ev K n env ρ v σ (.w (.str p)) σ₁) (h2:Ev K n env ρ i σ₁ (.w (.int k)) σ₂) (hx:getS p k=some c) :
  Ev K n env ρ (.Subscript v i pos) σ (.w (.str [c])) σ₂:=.mk fun _ _ _ _ _ F R h =>
 zs9 PySem.F.slot_str_getitem.lookup (h1 F R fun _ _ _ l1 R1 r1=>h2 F R1 fun g2 s2 _ l2 R2 r2=>by
  simp only [RV,RW] at r1; (refine obAE r1 fun hz t zq2=>?_; subst zq2)
  simp only [RV,RW] at r2; obtain ⟨t',rfl⟩:=r2
  rw [sizeLine_eq] at hz
  refine ⟨typeIs_str _ _ _,?_⟩
  have hk:(-(p.length:Int))≤k∧k<p.length∧(seqIndex? k p.length).bind (p[·]?)=some c:=by
   unfold getS at hx
   unfold seqIndex?
   by_cases hk:k<0
   ·rw [if_pos hk] at hx
    split at hx
    ·rename_i hk2
     refine ⟨hk2,by lia,?_⟩
     simp only [hk,if_true]
     rw [if_pos (by simp; omega)]
     exact hx
    ·cases hx
   ·rw [if_neg hk] at hx
    have hlt:k.toNat<p.length:=(List.getElem?_eq_some_iff.mp hx).1
    refine ⟨by lia,by omega,?_⟩
    simp only [hk,if_false]
    rw [if_pos (by simp; lia)]
    exact hx
  refine PyProof.Rows.getItem_str ?_ ?_ (h _ _ _ (l1.trans l2) (R2.toks _) (by simp only [RV,RW]; exact ⟨by rw [sizeLine_eq]; simp,_,rfl⟩))
  ·have h1 : ¬ k < -(2 ^ 63:Int):=by lia
   have h2 : ¬ k≥(2 ^ 63:Int):=by lia
   rw [decide_eq_false h1,decide_eq_false h2]; rfl
  ·simpa [Str.length] using hk.2.2)
structure EvO (K:Kc) (n:Nat) (env:Env) (ρ:Lo) (e:Option Expr) (σ:List (Addr × O)) (o:Option Int) (σ':List (Addr × O))  : Prop where
 go :   ∀ ⦃A:Around⦄ ⦃E:Value→Shared→Prop⦄ ⦃s:Shared⦄ ⦃Q:Value→Shared→Prop⦄ ⦃g:Gh⦄,Fit K n A→Rep K g env ρ σ s →
  (∀ g' s' p,g.le g'→Rep K g' env ρ σ' s'→p.map (·.1)=o→Q (partValue p) s')→wpAny (KM K) A (evalPart e env) Q E s
noncomputable instance {K:Kc} {n:Nat} {env:Env} {ρ:Lo} {e:Option Expr} {σ:List (Addr × O)} {o:Option Int} {σ':List (Addr × O)}:CoeFun (EvO K n env ρ e σ o σ') (fun _ =>   ∀ ⦃A:Around⦄ ⦃E:Value→Shared→Prop⦄ ⦃s:Shared⦄ ⦃Q:Value→Shared→Prop⦄ ⦃g:Gh⦄,Fit K n A→Rep K g env ρ σ s →
  (∀ g' s' p,g.le g'→Rep K g' env ρ σ' s'→p.map (·.1)=o→Q (partValue p) s')→wpAny (KM K) A (evalPart e env) Q E s):=⟨fun h=>h.go⟩
theorem EvO.nil:EvO K n env ρ none σ none σ:=.mk fun _ _ _ _ _ F R h=>wpAny_evalPart_none (h _ _ none (.refl _) R rfl)
theorem EvO.num {e:Expr} {i:Int} (h1:Ev K n env ρ e σ (.w (.int i)) σ'):EvO K n env ρ (some e) σ (some i) σ':=.mk fun _ _ _ _ _ F R h =>
 wpAny_evalPart_some (h1 F R fun g1 s1 u l1 R1 r1=>by
  simp only [RV,RW] at r1; obtain ⟨t,rfl⟩:=r1
  exact h _ _ (some (i,t)) l1 R1 rfl)
theorem EvO.non {e:Expr} (h1:Ev K n env ρ e σ (.w .none) σ'):EvO K n env ρ (some e) σ Option.none σ':=.mk fun _ _ _ _ _ F R h =>
 wpAny_evalPart_some (h1 F R fun g1 s1 u l1 R1 r1=>by
  simp only [RV,RW] at r1; subst r1
  exact h _ _ Option.none l1 R1 rfl)
theorem zm0 (p:Option (Int × Tok)):IsPart (partValue p) (p.map (·.1)):=by
 cases p with
 | none=>exact .none
 | some q=>exact .int q.1 q.2
theorem Ev.cutS {v:Expr} {lo hi st:Option Expr} {pos pos'} {p:List Nat} {a b c:Option Int} (h1:Ev K n env ρ v σ (.w (.str p)) σ) (h2:EvO K n env ρ lo σ a σ) (h3:EvO K n env ρ hi σ b σ)
  (h4:EvO K n env ρ st σ c σ) (hc:c=none):Ev K n env ρ (.Subscript v (.Slice lo hi st pos') pos) σ (.w (.str (cut1 a b p))) σ:=.mk fun _ _ _ _ _ F R h =>
 zs9 PySem.F.slot_str_getitem.lookup (h1 F R fun _ _ _ l1 R1 r1=>wpAny_Slice (h2 F R1 fun _ _ pa l2 R2 e2=>h3 F R2 fun _ _ pb l3 R3 e3=>h4 F R3 fun g4 s4 pc l4 R4 e4=>by
  simp only [RV,RW] at r1; (refine obAE r1 fun hz t zq2=>?_; subst zq2)
  refine ⟨typeIs_str _ _ _,?_⟩
  subst hc
  have hpc:pc=none:=by cases pc with
   | none=>rfl
   | some q=>cases e4
  subst hpc
  refine wpAny_getItem_str_slice (l:=pa) (u:=pb) (st:=none) ⟨_,Heap.get?_push_size _ rfl,rfl,rfl⟩ rfl ?_
  have key:(slicePicked ⟨p.toArray⟩ pa pb none).filterMap ((⟨p.toArray⟩:Str).cps[·]?)=cut1 a b p:=by
   unfold slicePicked
   rw [e2,e3]
   have:=zW4 p a b
   rw [← this]
   have e5:(⟨p.toArray⟩:Str).length=p.length:=by simp [Str.length]
   rw [e5]
   simp
  unfold sliceMade
  have R5:=R4.push { cls:=.type "slice",data:=.fields #[partValue pa,partValue pb,partValue none] }
  split
  ·rename_i hw
   refine h _ _ _ (((l1.trans l2).trans l3).trans l4) R5 ?_
   have hl:(slicePicked ⟨p.toArray⟩ pa pb none).length=p.length:=by
    have:=hw
    simp [Str.length] at this
    exact this
   have hfull:cut1 a b p=p:=by
    unfold slicePicked at hl
    rw [e2,e3] at hl
    have e5:(⟨p.toArray⟩:Str).length=p.length:=by simp [Str.length]
    rw [e5] at hl
    have e6:(Builtin.Str.strSliceIndices a b 1 p.length).length=ze1 b p.length p.length - ze1 a 0 p.length:=by
     unfold Builtin.Str.strSliceIndices
     have e : ∀ X Y:Int,X=(ze1 a 0 p.length:Int)→Y=(ze1 b p.length p.length:Int)→(sliceRange X Y 1).length=ze1 b p.length p.length - ze1 a 0 p.length:=by
      rintro _ _ rfl rfl
      rw [sliceRange_one]; simp
     exact e _ _ (zm7 a 0 p.length) (zm7 b p.length p.length)
    have e7:ze1 b p.length p.length - ze1 a 0 p.length=p.length:=by rw [← e6]; exact hl
    have:=zx3 b p.length
    unfold cut1
    by_cases h0:p.length=0
    ·have:p=[]:=List.length_eq_zero_iff.mp h0
     subst this; simp
    ·rw [show ze1 b p.length p.length=p.length by lia,show ze1 a 0 p.length=0 by lia]; simp
   simp only [RV,RW]
   exact ⟨by rw [hfull]; exact hz,t,by rw [hfull]⟩
  ·refine ⟨?_,h _ _ _ (((l1.trans l2).trans l3).trans l4) (R5.toks _) ?_⟩
   ·rw [key]
    have:=zF6 a b p
    simp only [Str.length,List.size_toArray]; exact Nat.le_trans ‹_› ‹_›
   ·rw [key]
    simp only [RV,RW]
    have:=zF6 a b p
    exact ⟨by exact Nat.le_trans ‹_› ‹_›,_,rfl⟩))
theorem Ev.cutL {v:Expr} {lo hi st:Option Expr} {pos pos'} {xs:List W} {a b c:Option Int} (h1:Ev K n env ρ v σ (.w (.list xs)) σ) (h2:EvO K n env ρ lo σ a σ) (h3:EvO K n env ρ hi σ b σ)
  (h4:EvO K n env ρ st σ c σ) (hc:c=none∨c=some 1):Ev K n env ρ (.Subscript v (.Slice lo hi st pos') pos) σ (.w (.list (cut1 a b xs))) σ:=.mk fun _ _ _ _ _ F R h =>
 zs9 list_getitem_lookup (h1 F R fun _ _ _ l1 R1 r1=>wpAny_Slice (h2 F R1 fun _ _ pa l2 R2 e2=>h3 F R2 fun _ _ pb l3 R3 e3=>h4 F R3 fun g4 s4 pc l4 R4 e4=>by
  have R5:=R4.push { cls:=.type "slice",data:=.fields #[partValue pa,partValue pb,partValue pc] }
  (refine zd6 (RW.list R5 (RW.mono ((l2.trans l3).trans l4).leB r1)) fun l vs m zq3=>?_; obtain ⟨rfl,_,ev,z1,w1⟩:=zq3)
  refine ⟨(isL ev).typeIs,?_⟩
  have ec:slicePick vs a b c=(cut1 a b vs.toList).toArray:=by
   rcases hc with rfl | rfl
   ·exact zA0 vs a b
   ·rw [zK9]; exact zA0 vs a b
  refine wpAny_getItem_list_slice (isL ev) ⟨_,Heap.get?_push_size _ rfl,rfl,rfl⟩ (zm0 pa) (zm0 pb) (zm0 pc) (by rw [e4]; rcases hc with rfl | rfl <;> simp) ?_ (by rw [z1.2]; exact z1.1)
  rw [e2,e3,e4,ec]
  refine zd4 (R5.newL (ya3 w1 a b) (Nat.le_trans (zF6 _ _ _) z1.1)) fun g' l' hw R'=>?_
  exact h _ _ _ ((((l1.trans l2).trans l3).trans l4).trans l') R' hw))
theorem Ev.revL {v:Expr} {lo hi st:Option Expr} {pos pos'} {xs:List W} (h1:Ev K n env ρ v σ (.w (.list xs)) σ) (h2:EvO K n env ρ lo σ none σ) (h3:EvO K n env ρ hi σ none σ)
  (h4:EvO K n env ρ st σ (some (-1)) σ):Ev K n env ρ (.Subscript v (.Slice lo hi st pos') pos) σ (.w (.list xs.reverse)) σ:=.mk fun _ _ _ _ _ F R h =>
 zs9 list_getitem_lookup (h1 F R fun _ _ _ l1 R1 r1=>wpAny_Slice (h2 F R1 fun _ _ pa l2 R2 e2=>h3 F R2 fun _ _ pb l3 R3 e3=>h4 F R3 fun g4 s4 pc l4 R4 e4=>by
  have R5:=R4.push { cls:=.type "slice",data:=.fields #[partValue pa,partValue pb,partValue pc] }
  (refine zd6 (RW.list R5 (RW.mono ((l2.trans l3).trans l4).leB r1)) fun l vs m zq3=>?_; obtain ⟨rfl,_,ev,z1,w1⟩:=zq3)
  refine ⟨(isL ev).typeIs,?_⟩
  refine wpAny_getItem_list_slice (isL ev) ⟨_,Heap.get?_push_size _ rfl,rfl,rfl⟩ (zm0 pa) (zm0 pb) (zm0 pc) (by rw [e4]; simp) ?_ (by rw [z1.2]; exact z1.1)
  rw [e2,e3,e4,zY0]
  refine zd4 (R5.newL w1.reverse (by simpa using z1.1)) fun g' l' hw R'=>?_
  exact h _ _ _ ((((l1.trans l2).trans l3).trans l4).trans l') R' hw))
end
end Mine
namespace Mine
inductive SetL:List (Str × Option V)→Str→V→List (Str × Option V)→Prop
 | head {x o v B}:SetL ((x,o)::B) x v ((x,some v)::B)
 | tail {p B x v B'}:SetL B x v B'→SetL (p::B) x v (p::B')
theorem SetL.split {l:List (Str × Option V)} {x v l'} (h:SetL l x v l') : ∃ A o B,l=A++(x,o)::B∧l'=A++(x,some v)::B:=by
 induction h with
 | head=>exact ⟨[],_,_,rfl,rfl⟩
 | tail h ih=>refine zd9 ih fun A o B e1 e2=>?_; exact ⟨_::A,o,B,by rw [e1]; rfl,by rw [e2]; rfl⟩
structure SetV (ρ:Lo) (x:Str) (v:V) (ρ':Lo):Prop where
 l:SetL ρ.v x v ρ'.v
 c:ρ'.c=ρ.c
section
variable {K:Kc} {n:Nat} {env:Env} {ρ ρ' ρ₁ ρ₂:Lo} {σ σ' σ₁ σ₂ σ₃:List (Addr × O)} {g:Gh} {s:Shared}
theorem Rep.frameWrite (R:Rep K g env ρ σ s) {a:Addr} {h':Heap} {tk:Nat} (ha:g.tag a=some .frame) (hs:Heap.SameBut a s.heap h') (hl : ∃ o,h'.get? a=some o) (hf:FrameAt g h' env ρ') :
  Rep K g env ρ' σ { s with heap:=h',toks:=tk }:=by
 have ne : ∀ b t,g.tag b=some t→t ≠ .frame→h'.get? b=s.heap.get? b:=fun b t hb ht=>hs.2 b (by rintro rfl; rw [ha] at hb; cases hb; exact ht rfl)
 refine obEE R.sh fun h t e=>?_
 refine ⟨R.G,R.hd,?_,fun b t hb=>?_,fun b hb=>?_,R.gnd,hf,fun b o m=>?_,R.nd⟩
 ·subst e; exact ⟨h',tk,rfl⟩
 ·by_cases e:b=a
  ·subst e
   exact hl
  ·obtain ⟨o,ho⟩:=R.live b t hb
   exact ⟨o,(hs.2 b e).trans ho⟩
 ·rcases hb with hb | hb
  ·exact (ne b _ hb (by simp)).trans (R.fix b (.inl hb))
  ·exact (ne b _ hb (by simp)).trans (R.fix b (.inr hb))
 ·exact (R.ob b o m).move (fun c hc=>⟨hc,rfl⟩) fun c hc=>⟨hc,ne c _ hc (by simp)⟩
theorem zb4 {A:Around} {E:Value→Shared→Prop} {x:Str} {v:V} {u:Value} {Q:Unit→Shared→Prop} (R:Rep K g env ρ σ s) (hv:SetV ρ x v ρ') (hu:RV g v u)
  (h : ∀ s',Rep K g env ρ' σ s'→Q () s'):wpAny (KM K) A (storeName env x u) Q E s:=by
 refine zd9 hv.l.split fun V1 o V2 e1 e2=>?_
 have F:=R.fr
 have hmem:(x,o)∈ρ.v:=by rw [e1]; simp
 refine obEA F.var fun m hn hvar=>?_
 have hnd:=F.nd
 have other : ∀ y ov,(y,ov)∈ρ'.v→(y=x∧ov=some v)∨(y≠x∧(y,ov)∈ρ.v):=by
  intro y ov hy
  rw [e2] at hy
  rw [e1,List.map_append,List.map_cons] at hnd
  have hnd':=List.nodup_append.mp hnd
  rcases List.mem_append.mp hy with h1 | h1
  ·right
   refine ⟨?_,by rw [e1]; exact List.mem_append_left _ h1⟩
   intro e
   have h2:y∈V1.map Prod.fst:=List.mem_map_of_mem (f:=Prod.fst) h1
   exact hnd'.2.2 _ h2 _ List.mem_cons_self e
  ·rcases List.mem_cons.mp h1 with h1 | h1
   ·cases h1; exact .inl ⟨rfl,rfl⟩
   ·right
    refine ⟨?_,by rw [e1]; exact List.mem_append_right _ (List.mem_cons_of_mem _ h1)⟩
    intro e
    have h2:y∈V2.map Prod.fst:=List.mem_map_of_mem (f:=Prod.fst) h1
    exact (List.nodup_cons.mp hnd'.2.1).1 (e ▸ h2)
 have ndn:(ρ'.v.map (·.1)).Nodup:=by
  have:ρ'.v.map (·.1)=ρ.v.map (·.1):=by rw [e1,e2]; simp
  rw [this]; exact hnd
 rcases hvar x o hmem with ⟨hl,ho⟩ | ⟨hl,c,w,hc,ht,hw,ho⟩
 ·refine wpAny_storeName_local hl hn (fun h' hn' hs=>h _ ?_) (by rw [F.kind]; rfl)
  refine R.frameWrite F.lt hs (let ⟨o,_,_,e,_⟩:=hn'; ⟨o,e⟩) { F with nd:=ndn,var:=⟨_,hn',fun y ov hy=>?_⟩,cap:=?_ }
  ·rcases other y ov hy with ⟨rfl,rfl⟩ | ⟨hne,hy'⟩
   ·exact .inl ⟨hl,by simp only [if_true]; exact hu⟩
   ·rcases hvar y ov hy' with ⟨a1,a2⟩ | ⟨a1,c,w,a2,a3,a4,a5⟩
    ·exact .inl ⟨a1,by simp only [hne,if_false]; exact a2⟩
    ·exact .inr ⟨a1,c,w,a2,a3,a4.sameBut hs (F.nel y c a2),a5⟩
  ·intro y v' hy
   rw [hv.c] at hy
   refine zc5 (F.cap y v' hy) fun a1 c w a2 a3 a4 a5=>?_
   exact ⟨a1,c,w,a2,a3,a4.sameBut hs (F.nel y c a2),a5⟩
 ·refine wpAny_storeName_cell F.kind hl hc hw fun h' hc' hs=>h _ ?_
  have:=R.frameWrite (tk:=s.toks) ht hs (let ⟨o,e,_⟩:=hc'; ⟨o,e⟩) { F with
   nd:=ndn
   var:=⟨m,hn.sameBut hs (fun e=>F.nel x c hc e.symm),fun y ov hy=>by
    rcases other y ov hy with ⟨rfl,rfl⟩ | ⟨hne,hy'⟩
    ·exact .inr ⟨hl,c,some u,hc,ht,hc',hu⟩
    ·rcases hvar y ov hy' with ⟨a1,a2⟩ | ⟨a1,c',w',a2,a3,a4,a5⟩
     ·exact .inl ⟨a1,a2⟩
     ·exact .inr ⟨a1,c',w',a2,a3,a4.sameBut hs (fun e=>hne (F.inj y x c (e ▸ a2) hc)),a5⟩⟩
   cap:=fun y v' hy=>by
    rw [hv.c] at hy
    refine zc5 (F.cap y v' hy) fun a1 c' w' a2 a3 a4 a5=>?_
    exact ⟨a1,c',w',a2,a3,a4.sameBut hs (fun e=>by subst e; rw [ht] at a3; cases a3),a5⟩ }
  exact this
inductive Out where
 | next | brk | cont | ret (v:V)
noncomputable def RF (g:Gh):Out→Flow→Prop
 | .next,f=>f = .next
 | .brk,f=>f = .brk
 | .cont,f=>f = .cont
 | .ret v,f=>∃ u,f = .ret u∧RV g v u
theorem RF.contE {g:Gh} {f:Flow} (h:RF g .cont f):f = .cont:=h
theorem RF.brkE {g:Gh} {f:Flow} (h:RF g .brk f):f = .brk:=h
theorem RF.nextE {g:Gh} {f:Flow} (h:RF g .next f):f = .next:=h
structure Ex1 (K:Kc) (n:Nat) (env:Env) (ρ:Lo) (σ:List (Addr × O)) (st:Stmt) (o:Out) (ρ':Lo) (σ':List (Addr × O))  : Prop where
 go :   ∀ ⦃A:Around⦄ ⦃E:Value→Shared→Prop⦄ ⦃s:Shared⦄ ⦃Q:Flow→Shared→Prop⦄ ⦃g:Gh⦄,Fit K n A→Rep K g env ρ σ s →
  (∀ g' s' f,g.le g'→Rep K g' env ρ' σ' s'→RF g' o f→Q f s')→wpAny (KM K) A (exec st env) Q E s
noncomputable instance {K:Kc} {n:Nat} {env:Env} {ρ:Lo} {σ:List (Addr × O)} {st:Stmt} {o:Out} {ρ':Lo} {σ':List (Addr × O)}:CoeFun (Ex1 K n env ρ σ st o ρ' σ') (fun _ =>   ∀ ⦃A:Around⦄ ⦃E:Value→Shared→Prop⦄ ⦃s:Shared⦄ ⦃Q:Flow→Shared→Prop⦄ ⦃g:Gh⦄,Fit K n A→Rep K g env ρ σ s →
  (∀ g' s' f,g.le g'→Rep K g' env ρ' σ' s'→RF g' o f→Q f s')→wpAny (KM K) A (exec st env) Q E s):=⟨fun h=>h.go⟩
structure Ex (K:Kc) (n:Nat) (env:Env) (ρ:Lo) (σ:List (Addr × O)) (ss:List Stmt) (o:Out) (ρ':Lo) (σ':List (Addr × O))  : Prop where
 go :   ∀ ⦃A:Around⦄ ⦃E:Value→Shared→Prop⦄ ⦃s:Shared⦄ ⦃Q:Flow→Shared→Prop⦄ ⦃g:Gh⦄,Fit K n A→Rep K g env ρ σ s →
  (∀ g' s' f,g.le g'→Rep K g' env ρ' σ' s'→RF g' o f→Q f s')→wpAny (KM K) A (execs ss env) Q E s
noncomputable instance {K:Kc} {n:Nat} {env:Env} {ρ:Lo} {σ:List (Addr × O)} {ss:List Stmt} {o:Out} {ρ':Lo} {σ':List (Addr × O)}:CoeFun (Ex K n env ρ σ ss o ρ' σ') (fun _ =>   ∀ ⦃A:Around⦄ ⦃E:Value→Shared→Prop⦄ ⦃s:Shared⦄ ⦃Q:Flow→Shared→Prop⦄ ⦃g:Gh⦄,Fit K n A→Rep K g env ρ σ s →
  (∀ g' s' f,g.le g'→Rep K g' env ρ' σ' s'→RF g' o f→Q f s')→wpAny (KM K) A (execs ss env) Q E s):=⟨fun h=>h.go⟩
theorem Ex.nil:Ex K n env ρ σ [] .next ρ σ:=.mk fun _ _ _ _ _ _ R h=>wpAny_execs_nil (h _ _ _ (.refl _) R rfl)
theorem Ex.cons {st:Stmt} {ss:List Stmt} {o:Out} (h1:Ex1 K n env ρ σ st .next ρ₁ σ₁) (h2:Ex K n env ρ₁ σ₁ ss o ρ' σ'):Ex K n env ρ σ (st::ss) o ρ' σ':=.mk fun _ _ _ _ _ F R h =>
 wpAny_execs_cons (h1 F R fun g1 s1 f l1 R1 r1=>by
  obtain rfl:=RF.nextE r1
  exact h2 F R1 fun g2 s2 f l2 R2 r2=>h g2 s2 f (l1.trans l2) R2 r2)
theorem Ex.stop {st:Stmt} {ss:List Stmt} {o:Out} (h1:Ex1 K n env ρ σ st o ρ' σ') (ho:o ≠ .next):Ex K n env ρ σ (st::ss) o ρ' σ':=.mk fun _ _ _ _ _ F R h =>
 wpAny_execs_cons (h1 F R fun g1 s1 f l1 R1 r1=>by
  have:=h g1 s1 f l1 R1 r1
  cases o with
  | next=>exact absurd rfl ho
  | brk=>simp only [RF] at r1; subst r1; exact this
  | cont=>simp only [RF] at r1; subst r1; exact this
  | ret v=>simp only [RF] at r1; (refine obEA r1 fun u zq1 _=>?_; subst zq1); exact this)
theorem Ex.append {s1 s2:List Stmt} {o:Out} (h1:Ex K n env ρ σ s1 .next ρ₁ σ₁) (h2:Ex K n env ρ₁ σ₁ s2 o ρ' σ'):Ex K n env ρ σ (s1++s2) o ρ' σ':=by
 induction s1 generalizing ρ σ with
 | nil => 
  refine .mk fun A E s Q g F R h=>?_
  have:=h1 (E:=E) (Q:=fun f s'=>f = .next→wpAny (KM K) A (execs s2 env) Q E s') F R fun g1 s1 f l1 R1 r1 _=>h2 F R1 fun g2 s2 f l2 R2 r2=>h g2 s2 f (l1.trans l2) R2 r2
  intro Γ p hΓ
  exact this Γ p hΓ rfl Γ p hΓ
 | cons st ss ih =>
  refine .mk fun A E s Q g F R h=>?_
  show wpAny _ _ (execs (st::(ss++s2)) env) _ _ _
  rw [execs_cons]
  have k:=h1 (E:=E) (Q:=fun f s'=>match f with | .next=>wpAny (KM K) A (execs s2 env) Q E s' | _=>False) F R fun g1 s1 f l1 R1 r1=>by
   obtain rfl:=RF.nextE r1
   exact h2 F R1 fun g2 s2 f l2 R2 r2=>h g2 s2 f (l1.trans l2) R2 r2
  rw [execs_cons] at k
  intro Γ p hΓ
  have k':=k Γ p hΓ
  rw [Sem.wp_bind'] at k' ⊢
  refine Sem.wp_mono _ _ _ (fun f p' s' hf=>?_) (fun _ _ _ e=>e) _ _ k'
  cases f with
  | next =>
   dsimp only at hf ⊢
   have gen : ∀ (l:List Stmt) p s,Sem.wp (KM K) Γ (execs l env) (fun a _ s'=>match a with | .next=>wpAny (KM K) A (execs s2 env) Q E s' | _=>False) (fun e _ s'=>E e s') p s →
     Sem.wp (KM K) Γ (execs (l++s2) env) (fun a _ s'=>Q a s') (fun e _ s'=>E e s') p s:=by
    intro l
    induction l with
    | nil=>intro p s hh; exact (show wpAny (KM K) A (execs s2 env) Q E s from hh) Γ p hΓ
    | cons t l ihl =>
     intro p s hh
     rw [execs_cons,Sem.wp_bind'] at hh
     show Sem.wp _ _ (execs (t::(l++s2)) env) _ _ _ _
     rw [execs_cons,Sem.wp_bind']
     refine Sem.wp_mono _ _ _ (fun f p' s' hf=>?_) (fun _ _ _ e=>e) _ _ hh
     cases f with
     | next=>exact ihl _ _ hf
     | brk=>exact (show False from hf).elim
     | cont=>exact (show False from hf).elim
     | ret v=>exact (show False from hf).elim
   exact gen ss p' s' hf
  | brk=>exact (show False from hf).elim
  | cont=>exact (show False from hf).elim
  | ret v=>exact (show False from hf).elim
theorem Ex1.assign {x:Str} {e:Expr} {p pos} {v:V} (h1:Ev K n env ρ e σ v σ') (hv:SetV ρ x v ρ') (hs:swapsWith e (some (.Name x p)) pos.line env=pure false:=by rfl) :
  Ex1 K n env ρ σ (.Assign [.Name x p] e pos) .next ρ' σ':=.mk fun _ _ _ _ _ F R h =>
 wpAny_Assign_Name (h1 F R fun _ _ _ l1 R1 r1=>zb4 R1 hv r1 fun s' R'=>h _ _ _ l1 R' rfl) hs
theorem Ex1.ret {e:Expr} {pos} {v:V} (h1:Ev K n env ρ e σ v σ'):Ex1 K n env ρ σ (.Return (some e) pos) (.ret v) ρ σ':=.mk fun _ _ _ _ _ F R h =>
 wpAny_Return_some (h1 F R fun _ _ u l1 R1 r1=>h _ _ _ l1 R1 ⟨u,rfl,r1⟩)
theorem Ex1.brk {pos}:Ex1 K n env ρ σ (.Break pos) .brk ρ σ:=.mk fun _ _ _ _ _ F R h=>wpAny_Break (h _ _ _ (.refl _) R rfl)
theorem Ex1.cont {pos}:Ex1 K n env ρ σ (.Continue pos) .cont ρ σ:=.mk fun _ _ _ _ _ F R h=>wpAny_Continue (h _ _ _ (.refl _) R rfl)
theorem Ex1.ite {c:Expr} {a b:List Stmt} {pos} {t:Bool} {o:Out} (h1:Ts K n env ρ c σ t σ₁) (h2:t=true→Ex K n env ρ σ₁ a o ρ' σ') (h3:t=false→Ex K n env ρ σ₁ b o ρ' σ') :
  Ex1 K n env ρ σ (.If c a b pos) o ρ' σ':=.mk fun _ _ _ _ _ F R h=>wpAny_If (h1 F R fun _ _ l1 R1=>by
   cases t with
   | true=>exact h2 rfl F R1 fun _ _ _ l2 R2 r2=>h _ _ _ (l1.trans l2) R2 r2
   | false=>exact h3 rfl F R1 fun _ _ _ l2 R2 r2=>h _ _ _ (l1.trans l2) R2 r2)
theorem Ex1.aug {x:Str} {op:Operator} {e:Expr} {p pos} {a b c:W} (hx:(x,some (V.w a))∈ρ.v) (h1:Ev K n env ρ e σ (.w b) σ') (ho:Opn K n (inplaceOp op) a b c) (hv:SetV ρ x (.w c) ρ') :
  Ex1 K n env ρ σ (.AugAssign (.Name x p) op e pos) .next ρ' σ':=.mk fun A E s Q g F R h=>by
 refine wpAny_AugAssign_Name ?_
 refine obEA R.fr.var fun m hn hvar=>?_
 have fin : ∀ u,RW g a u→wpAny (KM K) A (eval e env) (fun v s₂=>wpAny (KM K) A (inplaceOp op u v) (fun r s₃=>wpAny (KM K) A (storeName env x r) (fun _=>Q .next) E s₃) E s₂) E s:=fun u hu =>
  h1 F R fun _ _ _ l1 R1 r1=>ho F R1 (RW.mono l1.leB hu) r1 fun _ _ _ l2 R2 r2=>zb4 R2 hv r2 fun s' R'=>h _ _ _ (l1.trans l2) R' rfl
 rcases hvar x _ hx with ⟨hl,ho⟩ | ⟨hl,c,w,hc,ht,hw,ho⟩
 ·cases hm:m x with
  | none=>rw [hm] at ho; exact ho.elim
  | some u=>rw [hm] at ho; exact wpAny_loadName_local R.fr.kind hl hn hm (fin u ho)
 ·cases w with
  | none=>exact ho.elim
  | some u=>exact wpAny_loadName_cell R.fr.kind hl hc hw (fin u ho)
end
end Mine
namespace Mine
section
variable {K:Kc} {n:Nat} {env:Env} {ρ ρ' ρ₁ ρ₂ ρ₀:Lo} {σ σ' σ₀ σ₁ σ₂ σ₃:List (Addr × O)} {g g₀:Gh} {s s₀:Shared}
theorem Rep.hd_ne (R₀:Rep K g₀ env ρ₀ σ₀ s₀) {a:Addr} (ha:g₀.tag a=none) (h:HdOk K g) : ∀ t o,g.tag a=some .tmp→HdOk K (g.set a t o):=fun t o _=>by
 rcases h with h | ⟨e,vs,h1,h2,h3,h4⟩
 ·exact .inl h
 ·rcases R₀.hd with k | ⟨e',vs',k1,k2,_⟩
  ·rw [h1] at k; cases k
  ·rw [h1] at k1; cases k1
   have:e≠a:=by rintro rfl; rw [ha] at k2; cases k2
   exact .inr ⟨e,vs,h1,by rw [(g.set_ne _ _ this).1]; exact h2,by rw [(g.set_ne _ _ this).2]; exact h3,h4⟩
theorem Rep.untag (R₀:Rep K g₀ env ρ₀ σ₀ s₀) (R:Rep K g env ρ σ s) {a:Addr} (ha:g₀.tag a=none) (hc:ρ.c=ρ₀.c) (ht:g.tag a=some .tmp) (o:Obj):Rep K (g.set a none o) env ρ σ s:=by
 have ne : ∀ b t',g.tag b=some t'→t' ≠ .tmp→b≠a:=fun b t' hb h e=>by subst e; rw [ht] at hb; cases hb; exact h rfl
 have hleB:g.leB (g.set a none o):=fun b hb=>by
  have:=ne b _ hb (by simp)
  rw [(g.set_ne _ _ this).1,(g.set_ne _ _ this).2]; exact ⟨hb,rfl⟩
 refine ⟨R.G,R₀.hd_ne ha R.hd none o ht,R.sh,fun b t' hb=>?_,fun b hb=>?_,fun b o' hb=>?_,?_,fun b o' m=>?_,R.nd⟩
 ·by_cases e:b=a
  ·subst e; rw [(g.set_self b none o).1] at hb; cases hb
  ·rw [(g.set_ne _ o e).1] at hb; exact R.live b t' hb
 ·by_cases e:b=a
  ·subst e; rw [(g.set_self b none o).1] at hb; simp at hb
  ·rw [(g.set_ne _ o e).1] at hb; rw [(g.set_ne _ o e).2]; exact R.fix b hb
 ·have e:=ne b _ (R.gnd b o' hb).1 (by simp)
  rw [(g.set_ne _ o e).1,(g.set_ne _ o e).2]; exact R.gnd b o' hb
 ·have F:=R.fr
  exact { F with
   lt:=by rw [(g.set_ne _ o (ne _ _ F.lt (by simp))).1]; exact F.lt
   var:=by
    refine obEA F.var fun m hn hv=>?_
    refine ⟨m,hn,fun y ov hy=>?_⟩
    rcases hv y ov hy with ⟨h1,h2⟩ | ⟨h1,c,u,h2,h3,h4,h5⟩
    ·exact .inl ⟨h1,h2.mono hleB⟩
    ·exact .inr ⟨h1,c,u,h2,by rw [(g.set_ne _ o (ne _ _ h3 (by simp))).1]; exact h3,h4,h5.mono hleB⟩
   cap:=fun y v hy=>by
    refine zc5 (F.cap y v hy) fun h1 c u h2 h3 h4 h5=>?_
    have hca:c≠a:=by
     rintro rfl
     rw [hc] at hy
     refine zQ1 (R₀.fr.cap y v hy) fun _ c' u' k2 k3 _=>?_
     rw [h2] at k2; cases k2
     rw [ha] at k3; cases k3
    exact ⟨h1,c,u,h2,by rw [(g.set_ne _ o hca).1]; exact h3,h4,h5.mono hleB⟩ }
 ·exact (R.ob b o' m).move hleB fun c hc=>⟨by rw [(g.set_ne _ o (ne c _ hc (by simp))).1]; exact hc,rfl⟩
theorem Rep.tagAll (R:Rep K g env ρ σ s) : ∀ l:List Addr,∃ g',g.le g'∧Rep K g' env ρ σ s∧(∀ a,a∉l→g'.tag a=g.tag a∧g'.con a=g.con a)∧(∀ a t,g.tag a=some t→g'.tag a=some t∧g'.con a=g.con a) ∧
  ∀ a∈l,g.tag a=none→(∀ o,s.heap.get? a=some o→g'.tag a=some .tmp∧g'.con a=o)∧(s.heap.get? a=none→g'.tag a=none)
 | []=>⟨g,.refl _,R,fun _ _=>⟨rfl,rfl⟩,fun _ _ h=>⟨h,rfl⟩,fun _ h=>(nomatch h)⟩
 | b::l=>by
  refine zk0 (R.tagAll l) fun g₁ l₁ R₁ k₁ k₂ k₃=>?_
  cases hb:s.heap.get? b with
  | none =>
   refine ⟨g₁,l₁,R₁,fun a ha=>k₁ a fun h=>ha (List.mem_cons_of_mem _ h),k₂,fun a ha hn=>?_⟩
   by_cases hm:a∈l
   ·exact k₃ a hm hn
   ·rcases List.mem_cons.mp ha with rfl | h
    ·exact ⟨fun o ho=>absurd ho (by rw [hb]; simp),fun _=>by rw [(k₁ a hm).1]; exact hn⟩
    ·exact absurd h hm
  | some o =>
   cases ht:g₁.tag b with
   | some t =>
    refine ⟨g₁,l₁,R₁,fun a ha=>k₁ a fun h=>ha (List.mem_cons_of_mem _ h),k₂,fun a ha hn=>?_⟩
    by_cases hm:a∈l
    ·exact k₃ a hm hn
    ·rcases List.mem_cons.mp ha with rfl | h
     ·rw [(k₁ a hm).1,hn] at ht; cases ht
     ·exact absurd h hm
   | none =>
    refine ⟨g₁.set b (some .tmp) o,l₁.trans (Gh.le_set ht),R₁.tagAs hb ht,fun a ha=>?_,fun a t hg=>?_,fun a ha hn=>?_⟩
    ·have hne:a≠b:=fun e=>ha (by simp [e])
     rw [(g₁.set_ne _ o hne).1,(g₁.set_ne _ o hne).2]
     exact k₁ a fun h=>ha (List.mem_cons_of_mem _ h)
    ·(have zq:=k₂ a t hg; have q1:=zq.1; have q2:=zq.2)
     have hne:a≠b:=by rintro rfl; rw [ht] at q1; cases q1
     rw [(g₁.set_ne _ o hne).1,(g₁.set_ne _ o hne).2]; exact ⟨q1,q2⟩
    ·by_cases hab:a=b
     ·subst hab
      refine ⟨fun o' ho=>?_,fun hno=>by rw [hb] at hno; cases hno⟩
      rw [hb] at ho; cases ho
      exact g₁.set_self a _ o
     ·have hm:a∈l:=by rcases List.mem_cons.mp ha with h | h; exact absurd h hab; exact h
      rw [(g₁.set_ne _ o hab).1,(g₁.set_ne _ o hab).2]
      exact k₃ a hm hn
theorem Rep.untagAll (R₀:Rep K g₀ env ρ₀ σ₀ s₀) (hc:ρ.c=ρ₀.c) : ∀ (l:List Addr) {g:Gh},Rep K g env ρ σ s→g₀.le g→(∀ a∈l,g₀.tag a=none∧(g.tag a=some .tmp∨g.tag a=none)) →
  ∃ g',g₀.le g'∧g.leB g'∧Rep K g' env ρ σ s∧(∀ a∈l,g'.tag a=none)∧(∀ a,a∉l→g'.tag a=g.tag a∧g'.con a=g.con a)
 | [],g,R,hle,_=>⟨g,hle,fun _ h=>⟨h,rfl⟩,R,fun _ h=>(nomatch h),fun _ _=>⟨rfl,rfl⟩⟩
 | b::l,g,R,hle,h=>by
  (have zq:=h b List.mem_cons_self; have hb0:=zq.1; have hb:=zq.2)
  rcases hb with hb | hb
  ·have R1:=R₀.untag R hb0 hc hb default
   have hne : ∀ a t,g₀.tag a=some t→a≠b:=fun a t ha e=>by subst e; rw [hb0] at ha; cases ha
   have hle1:g₀.le (g.set b none default):=⟨fun a ha=>by
     rw [(g.set_ne _ _ (hne a _ ha)).1,(g.set_ne _ _ (hne a _ ha)).2]; exact hle.base a ha,fun a ha=>by
     rw [(g.set_ne _ _ (hne a _ ha)).1,(g.set_ne _ _ (hne a _ ha)).2]; exact hle.tmp a ha⟩
   obtain ⟨g',k1,k2,k3,k4,k5⟩:=R₀.untagAll hc l R1 hle1 fun a ha=>by
    (have zq:=h a (List.mem_cons_of_mem _ ha); have q1:=zq.1; have q2:=zq.2)
    refine ⟨q1,?_⟩
    by_cases e:a=b
    ·subst e; exact .inr (g.set_self a none default).1
    ·rw [(g.set_ne _ _ e).1]; exact q2
   refine ⟨g',k1,fun a ha=>?_,k3,fun a ha=>?_,fun a ha=>?_⟩
   ·have e:a≠b:=by rintro rfl; rw [hb] at ha; cases ha
    have:=k2 a (by rw [(g.set_ne _ _ e).1]; exact ha)
    rw [(g.set_ne _ _ e).2] at this; exact this
   ·by_cases hm:a∈l
    ·exact k4 a hm
    ·rcases List.mem_cons.mp ha with rfl | h
     ·rw [(k5 a hm).1]; exact (g.set_self a none default).1
     ·exact absurd h hm
   ·have e:a≠b:=fun e=>ha (by simp [e])
    (have zq:=k5 a fun h=>ha (List.mem_cons_of_mem _ h); have q1:=zq.1; have q2:=zq.2)
    rw [q1,q2,(g.set_ne _ _ e).1,(g.set_ne _ _ e).2]; exact ⟨rfl,rfl⟩
  ·refine zk0 (R₀.untagAll hc l R hle fun a ha=>h a (List.mem_cons_of_mem _ ha)) fun g' k1 k2 k3 k4 k5=>?_
   refine ⟨g',k1,k2,k3,fun a ha=>?_,fun a ha=>k5 a fun h=>ha (List.mem_cons_of_mem _ h)⟩
   by_cases hm:a∈l
   ·exact k4 a hm
   ·rcases List.mem_cons.mp ha with rfl | h
    ·rw [(k5 a hm).1]; exact hb
    ·exact absurd h hm
theorem Ex1.while {test:Expr} {body orelse:List Stmt} {pos} {o:Out} (N:Nat) (ρs:Nat→Lo) (σs σt:Nat→List (Addr × O))
  (ht : ∀ k,k<N→Ts K n env (ρs k) test (σs k) true (σt k)) (hb : ∀ k,k<N→Ex K n env (ρs k) (σt k) body .next (ρs (k+1)) (σs (k+1)))
  (hN:Ts K n env (ρs N) test (σs N) false σ₁) (ho:Ex K n env (ρs N) σ₁ orelse o ρ' σ'):Ex1 K n env (ρs 0) (σs 0) (.While test body orelse pos) o ρ' σ':=.mk fun A E s Q g F R h=>by
 refine wpAny_While (codeAny_whileLoop (fun m s'=>∃ k g',k≤N∧m=N - k∧g.le g'∧Rep K g' env (ρs k) (σs k) s') ?_ N ⟨0,g,Nat.zero_le _,rfl,.refl _,R⟩)
 rintro m s' ⟨k,g',hk,rfl,hle,R'⟩
 by_cases hkN:k<N
 ·refine ht k hkN F R' fun g2 s2 l2 R2=>?_
  simp only [if_true]
  refine hb k hkN F R2 fun g3 s3 f l3 R3 r3=>?_
  obtain rfl:=RF.nextE r3
  exact ⟨N - (k+1),by exact Nat.sub_succ_lt_self _ _ ‹_›,k+1,g3,hkN,rfl,(hle.trans l2).trans l3,R3⟩
 ·have:k=N:=by omega
  subst this
  refine hN F R' fun g2 s2 l2 R2=>?_
  simp only [Bool.false_eq_true,if_false]
  exact ho F R2 fun g3 s3 f l3 R3 r3=>h g3 s3 f ((hle.trans l2).trans l3) R3 r3
end
end Mine
namespace Mine
structure Wk (K:Kc) (A:Around) (I:Addr) (fp wr:List Addr) (items:List W) (g₀:Gh) (St:Nat→Heap→Prop) (target:Expr):Prop where
 sub : ∀ b∈wr,b∈fp
 wr0 : ∀ b∈wr,g₀.tag b=none
 ro : ∀ b∈fp,b∉wr→g₀.tag b=some .base∨g₀.tag b=some .tmp
 alive : ∀ i h,St i h→∀ b∈wr,∃ o,h.get? b=some o
 frame : ∀ i h h',St i h→(∀ b∈fp,∀ o,h.get? b=some o→h'.get? b=some o)→St i h'
 step : ∀ {i:Nat} {s:Shared} {Q:Value→Shared→Prop} {E:Value→Shared→Prop} {g:Gh} {env:Env} {ρ:Lo} {σ:List (Addr × O)},i<items.length→St i s.heap→Rep K g env ρ σ s→g₀.le g→(∀ b∈wr,g.tag b=none) →
  (∀ g' s' u x,items[i]? = some x→RW g' x u→g.le g'→Rep K g' env ρ σ s'→(∀ b∈wr,g'.tag b=none)→St (i+1) s'.heap→Q u s') →
  wpAny (KM K) A (pyNext (.ref I)) (fun r s₁=>match r with | none=>False | some v=>wpAny (KM K) A (letOwnedTupleGo target (.ref I) v) (fun _ s₂=>Q v s₂) E s₁) E s
 done : ∀ {s:Shared} {Q:Option Value→Shared→Prop} {E:Value→Shared→Prop} {g:Gh} {env:Env} {ρ:Lo} {σ:List (Addr × O)},St items.length s.heap→Rep K g env ρ σ s→g₀.le g→(∀ b∈wr,g.tag b=none) →
  (∀ s',Rep K g env ρ σ s'→Q none s')→wpAny (KM K) A (pyNext (.ref I)) Q E s
 self : ∀ i (s:Shared) (Q:Value→Shared→Prop) (E:Value→Shared→Prop),St i s.heap→Q (.ref I) s→wpAny (KM K) A (pyIter (.ref I)) Q E s
section
variable {K:Kc} {n:Nat} {env:Env} {ρ ρ' ρ₁ ρ₂ ρ₀:Lo} {σ σ' σ₀ σ₁ σ₂ σ₃:List (Addr × O)} {g g₀:Gh} {s s₀:Shared} {A:Around} {items:List W}
theorem Rep.off (R:Rep K g env ρ σ s) {wr:List Addr} (hw : ∀ b∈wr,g.tag b=none) {h':Heap} {tk:Nat} (hk : ∀ b o,b∉wr→s.heap.get? b=some o→h'.get? b=some o):Rep K g env ρ σ { s with heap:=h',toks:=tk } :=
 R.heap fun b t o e ho=>hk b o (fun hm=>by rw [hw b hm] at e; cases e) ho
theorem Wk.of_walksT {I:Addr} {fp wr:List Addr} {N:Nat} {Pt:Nat→Array Value→Prop} {St:Nat→Heap→Prop} {Mid:Nat→Addr→Heap→Prop} {elts:List Expr} {k:Nat} {p:Pos}
  (W:WalksT K.prog K.w A I fp wr N Pt St Mid) (hN:N=items.length)
  (al : ∀ i h,St i h→∀ b∈wr,∃ o,h.get? b=some o) (wr0 : ∀ b∈wr,g₀.tag b=none) (ro : ∀ b∈fp,b∉wr→g₀.tag b=some .base∨g₀.tag b=some .tmp)
  (hP : ∀ i vals,Pt i vals→∃ xs,items[i]? = some (.tuple xs)∧xs.length≤8∧∀ g,g₀.leB g→RWs g xs vals.toList):Wk K A I fp wr items g₀ St (.Tuple elts k p) where
 sub:=W.sub
 wr0:=wr0
 ro:=ro
 alive:=al
 frame:=W.frame
 step:=fun {i s Q E g env ρ σ} hi hst R hle hw h=>by
  refine W.item i s _ E (by lia) hst fun T vals h' tk hp hT hIs hm hk=>?_
  refine W.go elts k p i T _ _ _ hm fun h'' hst'' hk'=>?_
  have R1:=R.off (tk:=tk) hw hk
  have R2:=R1.off (tk:=tk) hw hk'
  refine zz5 hIs fun o ho hc m hd=>?_
  have ho2:h''.get? T=some o:=hk' T o (W.apart i T h' hm) ho
  have hTn:g.tag T=none:=by
   cases e:g.tag T with
   | none=>rfl
   | some t=>exact absurd (R.lt e) (Nat.not_lt.mpr hT)
  have R3:=R2.tagAs (t:=.base) ho2 hTn
  refine zd4 (hP i vals hp) fun xs hx hl hr=>?_
  have l3:g.le (g.set T (some .base) o):=Gh.le_set hTn
  refine h _ _ _ (.tuple xs) hx ?_ l3 R3 (fun b hb=>?_) hst''
  ·simp only [RW]
   refine ⟨T,vals,rfl,(g.set_self T _ o).1,⟨by rw [(g.set_self T _ o).2]; exact hc,m,by rw [(g.set_self T _ o).2]; exact hd⟩,by rw [sizeLine_eq]; exact Nat.le_trans ‹_› (by decide),hr _ (fun a ha=>l3.leB a (hle.leB a ha).1 |> fun q=>⟨q.1,q.2.trans (hle.leB a ha).2⟩)⟩
  ·have hne:b≠T:=fun e=>W.apart i T h' hm (e ▸ hb)
   rw [(g.set_ne _ o hne).1]; exact hw b hb
 done:=fun {s Q E g env ρ σ} hst R hle hw h=>W.done s Q E (hN ▸ hst) fun h' tk hk=>h _ (R.off hw hk)
 self:=W.self
structure ItN (K:Kc) (n:Nat) (env:Env) (ρ:Lo) (e:Expr) (σ:List (Addr × O)) (items:List W) (σ':List (Addr × O)) (target:Expr)  : Prop where
 go :   ∀ ⦃A:Around⦄ ⦃E:Value→Shared→Prop⦄ ⦃s:Shared⦄ ⦃Q:Value→Shared→Prop⦄ ⦃g:Gh⦄,Fit K n A→Rep K g env ρ σ s →
  (∀ g' s' I fp wr St,g.le g'→Rep K g' env ρ σ' s'→Wk K A I fp wr items g' St target→St 0 s'.heap→Q (.ref I) s') →
  wpAny (KM K) A (eval e env) (fun x s₁=>wpAny (KM K) A (pyIter x) Q E s₁) E s
noncomputable instance {K:Kc} {n:Nat} {env:Env} {ρ:Lo} {e:Expr} {σ:List (Addr × O)} {items:List W} {σ':List (Addr × O)} {target:Expr}:CoeFun (ItN K n env ρ e σ items σ' target) (fun _ =>   ∀ ⦃A:Around⦄ ⦃E:Value→Shared→Prop⦄ ⦃s:Shared⦄ ⦃Q:Value→Shared→Prop⦄ ⦃g:Gh⦄,Fit K n A→Rep K g env ρ σ s →
  (∀ g' s' I fp wr St,g.le g'→Rep K g' env ρ σ' s'→Wk K A I fp wr items g' St target→St 0 s'.heap→Q (.ref I) s') →
  wpAny (KM K) A (eval e env) (fun x s₁=>wpAny (KM K) A (pyIter x) Q E s₁) E s):=⟨fun h=>h.go⟩
structure Bind (K:Kc) (n:Nat) (env:Env) (target:Expr) (x:W) (ρ ρ':Lo)  : Prop where
 go :   ∀ ⦃A:Around⦄ ⦃E:Value→Shared→Prop⦄ ⦃s:Shared⦄ ⦃Q:Unit→Shared→Prop⦄ ⦃g:Gh⦄ ⦃u:Value⦄ ⦃σ:List (Addr × O)⦄,Fit K n A→Rep K g env ρ σ s→RW g x u →
  (∀ s',Rep K g env ρ' σ s'→Q () s')→wpAny (KM K) A (assign target env u) Q E s
noncomputable instance {K:Kc} {n:Nat} {env:Env} {target:Expr} {x:W} {ρ ρ':Lo}:CoeFun (Bind K n env target x ρ ρ') (fun _ =>   ∀ ⦃A:Around⦄ ⦃E:Value→Shared→Prop⦄ ⦃s:Shared⦄ ⦃Q:Unit→Shared→Prop⦄ ⦃g:Gh⦄ ⦃u:Value⦄ ⦃σ:List (Addr × O)⦄,Fit K n A→Rep K g env ρ σ s→RW g x u →
  (∀ s',Rep K g env ρ' σ s'→Q () s')→wpAny (KM K) A (assign target env u) Q E s):=⟨fun h=>h.go⟩
theorem Bind.name {x:Str} {p:Pos} {w:W} (h:SetV ρ x (.w w) ρ'):Bind K n env (.Name x p) w ρ ρ':=.mk fun _ _ _ _ _ _ _ F R r k=>wpAny_assign_Name (zb4 R h r k)
theorem Bind.pair {x y:Str} {p q pos:Pos} {k:Nat} {a b:W} (hd:K.hd=none) (h1:SetV ρ x (.w a) ρ₁) (h2:SetV ρ₁ y (.w b) ρ') :
  Bind K n env (.Tuple [.Name x p,.Name y q] k pos) (.tuple [a,b]) ρ ρ':=.mk fun A E s Q g u σ F R r h=>by
 (refine obEE (RW.tuple R r) fun t vs zq2=>?_; obtain ⟨rfl,ht,hT,hz,hw⟩:=zq2)
 refine wpAny_assign_Tuple (by rw [F.hand,hd]) hT (by rw [hz.2]; rfl) rfl fun h' he=>?_
 have R1:Rep K g env ρ σ { s with heap:=h' }:=R.heap (tk:=s.toks) fun b t o e ho=>he b o (Nat.ne_of_lt (R.lt e)) ho
 simp only [RWs] at hw
 refine zc0 hw fun v1 r1 e1 hv1 v2 r2 e2 hv2 e3=>?_
 subst e3; subst e2
 rw [e1]
 show wpAny _ A (assignInOrder [assign (.Name x p) env,assign (.Name y q) env] [v1,v2]) _ _ _
 refine wpAny_assignInOrder_more (wpAny_assign_Name (zb4 R1 h1 (by exact hv1) fun s2 R2=>?_))
 refine wpAny_assignInOrder_more (wpAny_assign_Name (zb4 R2 h2 (by exact hv2) fun s3 R3=>?_))
 exact wpAny_assignInOrder_none (h s3 R3)
theorem Wk.turn {I:Addr} {fp wr:List Addr} {St:Nat→Heap→Prop} {target:Expr} {s₁ s₂:Shared} {g₁ g₂ g₃:Gh} {i:Nat} {env₂:Env} (W:Wk K A I fp wr items g₀ St target) (hst:St i s₁.heap)
  (R₁:Rep K g₁ env ρ₁ σ₁ s₁) (l01:g₀.le g₁)
  (ht : ∀ a∈wr,(∀ o,s₁.heap.get? a=some o→g₂.tag a=some .tmp∧g₂.con a=o)) (l12:g₁.le g₂) (l23:g₂.le g₃) (R₃:Rep K g₃ env₂ ρ₂ σ₂ s₂):St i s₂.heap:=by
 refine W.frame i _ _ hst fun b hb o ho=>?_
 by_cases hw:b∈wr
 ·(have zq:=ht b hw o ho; have q1:=zq.1; have q2:=zq.2)
  (have zq:=l23.tmp b q1; have q3:=zq.1; have q4:=zq.2)
  rw [R₃.fix b (.inr q3),q4,q2]
 ·have l03:=(l01.trans l12).trans l23
  rcases W.ro b hb hw with q | q
  ·(have zq:=l01.base b q; have q1:=zq.1; have q2:=zq.2)
   (have zq:=(l12.trans l23).base b q1; have q3:=zq.1; have q4:=zq.2)
   have:=R₁.fix b (.inl q1)
   rw [ho] at this; cases this
   rw [R₃.fix b (.inl q3),q4]
  ·(have zq:=l01.tmp b q; have q1:=zq.1; have q2:=zq.2)
   (have zq:=(l12.trans l23).tmp b q1; have q3:=zq.1; have q4:=zq.2)
   have:=R₁.fix b (.inr q1)
   rw [ho] at this; cases this
   rw [R₃.fix b (.inr q3),q4]
theorem Ex1.for {target iter:Expr} {body orelse:List Stmt} {pos} {o:Out} (ρs ρb:Nat→Lo) (σs:Nat→List (Addr × O)) (hi:ItN K n env (ρs 0) iter σ items (σs 0) target)
  (hc : ∀ k,(ρs k).c=(ρs 0).c)
  (hb : ∀ k x,items[k]? = some x→Bind K n env target x (ρs k) (ρb k) ∧
   (Ex K n env (ρb k) (σs k) body .next (ρs (k+1)) (σs (k+1))∨Ex K n env (ρb k) (σs k) body .cont (ρs (k+1)) (σs (k+1))))
  (ho:Ex K n env (ρs items.length) (σs items.length) orelse o ρ' σ') (hs : ∀ x,foldedSetIterable iter env x=pure x:=by intro _; rfl) :
  Ex1 K n env (ρs 0) σ (.For target iter body orelse pos) o ρ' σ':=.mk fun A E s Q g F R h=>by
 refine wpAny_For (hi F R fun g₀ s₀ I fp wr St l₀ R₀ W hst=>?_) hs
 refine codeAny_forLoop_any (fun m s'=>∃ k g',k≤items.length∧m=items.length - k∧g₀.le g'∧Rep K g' env (ρs k) (σs k) s'∧St k s'.heap∧∀ b∈wr,g'.tag b=none) ?_ items.length
  ⟨0,g₀,Nat.zero_le _,rfl,.refl _,R₀,hst,W.wr0⟩
 rintro m s' ⟨k,g',hk,rfl,hle,R',hst',hw⟩
 have l0:=hle
 by_cases hkN:k<items.length
 ·refine wpAny_mono (W.step (Q:=fun v s₂=>wpAny (KM K) A (PySem.assign target env v) (fun _ s₂=>wpAny (model K.prog K.w) A (execs body env) (fun f s₃=>match f with
      | .next | .cont=>∃ m,m<items.length - k∧∃ k' g',k'≤items.length∧m=items.length - k'∧g₀.le g'∧Rep K g' env (ρs k') (σs k') s₃∧St k' s₃.heap∧∀ b∈wr,g'.tag b=none
      | .brk=>Q .next s₃
      | .ret v=>Q (.ret v) s₃) (notedBy (model K.prog K.w) A env fun e s'=>cameBackBy (KM K) A env E e s') s₂) (notedBy (model K.prog K.w) A env fun e s'=>cameBackBy (KM K) A env E e s') s₂)
    (E:=notedBy (model K.prog K.w) A env fun e s'=>cameBackBy (KM K) A env E e s') hkN hst' R' hle hw fun g1 s1 u x hx hr l1 R1 hw1 hst1=>?_) (fun r s₁ hr=>?_) fun _ _ e=>e
  rotate_left 1
  ·cases r with
   | none=>exact hr.elim
   | some v=>exact hr
  (have zq:=hb k x hx; have hbind:=zq.1; have hbody:=zq.2)
  refine zk0 (R1.tagAll wr) fun g2 l2 R2 k1 k2 k3=>?_
  have htag : ∀ a∈wr,∀ o,s1.heap.get? a=some o→g2.tag a=some .tmp∧g2.con a=o:=fun a ha=>(k3 a ha (hw1 a ha)).1
  refine hbind F R2 (RW.mono l2.leB hr) fun s2 R3=>?_
  have fin : ∀ g3 s3,g2.le g3→Rep K g3 env (ρs (k+1)) (σs (k+1)) s3 →
    ∃ m,m<items.length - k∧∃ k' g',k'≤items.length∧m=items.length - k'∧g₀.le g'∧Rep K g' env (ρs k') (σs k') s3∧St k' s3.heap∧∀ b∈wr,g'.tag b=none:=by
   intro g3 s3 l3 R4
   have hst3:=W.turn hst1 R1 (l0.trans l1) htag l2 l3 R4
   obtain ⟨g4,q1,q2,q3,q4,_⟩:=R₀.untagAll (hc (k+1)) wr R4 (((l0.trans l1).trans l2).trans l3) fun a ha=>⟨W.wr0 a ha,by
    obtain ⟨o,ho⟩:=W.alive _ _ hst1 a ha
    exact .inl (l3.tmp a (htag a ha o ho).1).1⟩
   exact ⟨items.length - (k+1),by exact Nat.sub_succ_lt_self _ _ ‹_›,k+1,g4,hkN,rfl,q1,q3,hst3,q4⟩
  rcases hbody with hbody | hbody
  ·refine hbody F R3 fun g3 s3 f l3 R4 r4=>?_
   obtain rfl:=RF.nextE r4
   exact fin g3 s3 l3 R4
  ·refine hbody F R3 fun g3 s3 f l3 R4 r4=>?_
   obtain rfl:=RF.contE r4
   exact fin g3 s3 l3 R4
 ·have hkN:k=items.length:=by lia
  subst hkN
  refine W.done hst' R' hle hw fun s1 R1=>?_
  exact ho F R1 fun g2 s2 f l2 R2 r2=>h g2 s2 f ((l₀.trans hle).trans l2) R2 r2
end
end Mine
namespace Mine
section
variable {K:Kc} {n:Nat} {env cenv:Env} {ρ ρ' ρ₁ ρ₂ ρ₀ ρc:Lo} {σ σ' σ₀ σ₁ σ₂ σ₃:List (Addr × O)} {g g₀ g₁:Gh} {s s₀ s':Shared} {A:Around} {items:List W}
noncomputable def Gh.swap (g:Gh) (h:Heap) (fr:Addr→Bool):Gh :=
 ⟨fun a=>match g.tag a with
  | some .frame=>some .tmp
  | some t=>some t
  | none=>if fr a then some .frame else none,
  fun a=>match g.tag a with
  | some .frame=>(h.get? a).getD default
  | _=>g.con a⟩
theorem Gh.swap_le (g:Gh) (h:Heap) (fr):g.le (g.swap h fr):=by
 constructor
 ·intro a ha; simp [Gh.swap,ha]
 ·intro a ha; simp [Gh.swap,ha]
theorem Rep.swapFrame (R:Rep K g env ρ σ s) {h':Heap} {tk:Nat} (fr:Addr→Bool) (hk : ∀ b o,s.heap.get? b=some o→h'.get? b=some o) (hf : ∀ a,fr a=true→∃ o,h'.get? a=some o)
  (F':FrameAt (g.swap s.heap fr) h' cenv ρc):Rep K (g.swap s.heap fr) cenv ρc σ { s with heap:=h',toks:=tk }:=by
 have same : ∀ b t,g.tag b=some t→h'.get? b=s.heap.get? b:=fun b t hb=>by
  obtain ⟨o,ho⟩:=R.live b t hb
  rw [ho]; exact hk b o ho
 have hle:=g.swap_le s.heap fr
 refine obEE R.sh fun h0 t0 e0=>?_
 refine ⟨R.G,R.hd.mono hle.tmp,?_,fun a t ha=>?_,fun a ha=>?_,fun a o ho=>?_,F',fun a o m=>?_,R.nd⟩
 ·subst e0; exact ⟨h',tk,rfl⟩
 ·show ∃ o,h'.get? a=some o
  cases hg:g.tag a with
  | some t'=>obtain ⟨o,ho⟩:=R.live a t' hg; exact ⟨o,hk a o ho⟩
  | none =>
   simp only [Gh.swap,hg] at ha
   split at ha
   ·rename_i hfr; exact hf a hfr
   ·cases ha
 ·show h'.get? a=some _
  cases hg:g.tag a with
  | some t' =>
   rw [same a t' hg]
   cases t' with
   | frame =>
    obtain ⟨o,ho⟩:=R.live a _ hg
    simp only [Gh.swap,hg,ho,Option.getD_some]
   | base=>simp only [Gh.swap,hg]; exact R.fix a (.inl hg)
   | tmp=>simp only [Gh.swap,hg]; exact R.fix a (.inr hg)
   | obj k=>simp only [Gh.swap,hg] at ha; simp at ha
  | none =>
   simp only [Gh.swap,hg] at ha
   split at ha <;> simp at ha
 ·(have zq:=R.gnd a o ho; have q1:=zq.1; have q2:=zq.2)
  (have zq:=hle.base a q1; have q3:=zq.1; have q4:=zq.2)
  exact ⟨q3,q4.trans q2⟩
 ·exact (R.ob a o m).move hle.leB fun b hb=>⟨by simp [Gh.swap,hb],same b _ hb⟩
noncomputable def Gh.back (g g':Gh):Gh:=⟨fun a=>match g.tag a with
  | some .frame=>some .frame
  | _=>match g'.tag a with
   | some .frame=>none
   | t=>t,g'.con⟩
theorem Gh.back_le {g g':Gh} (h:g.le g'):g.le (g.back g'):=by
 constructor
 ·intro a ha; (have zq:=h.base a ha; have q1:=zq.1; have q2:=zq.2); simp [Gh.back,ha,q1,q2]
 ·intro a ha; (have zq:=h.tmp a ha; have q1:=zq.1; have q2:=zq.2); simp [Gh.back,ha,q1,q2]
theorem Rep.backFrame (R₀:Rep K g env ρ σ₀ s₀) {fr:Addr→Bool} {g':Gh} (hle:(g.swap s₀.heap fr).le g') (R:Rep K g' cenv ρc σ s):Rep K (g.back g') env ρ σ s∧g.le (g.back g')∧g'.leB (g.back g'):=by
 have l0:g.le g':=(g.swap_le s₀.heap fr).trans hle
 have lb:=Gh.back_le l0
 have hfr : ∀ a,g.tag a=some .frame→g'.tag a=some .tmp∧s.heap.get? a=s₀.heap.get? a:=fun a ha=>by
  obtain ⟨o,ho⟩:=R₀.live a _ ha
  (have zq:=hle.tmp a (by simp [Gh.swap,ha]); have q1:=zq.1; have q2:=zq.2)
  refine ⟨q1,?_⟩
  rw [R.fix a (.inr q1),q2,ho]
  simp [Gh.swap,ha,ho]
 have hlB:g'.leB (g.back g'):=fun a ha=>by
  cases hg:g.tag a with
  | none=>simp [Gh.back,hg,ha]
  | some t =>
   cases t with
   | frame=>rw [(hfr a hg).1] at ha; cases ha
   | base=>simp [Gh.back,hg,ha]
   | tmp=>simp [Gh.back,hg,ha]
   | obj k=>simp [Gh.back,hg,ha]
 refine ⟨⟨R.G,R₀.hd.mono lb.tmp,R.sh,fun a t ha=>?_,fun a ha=>?_,fun a o ho=>?_,?_,fun a o m=>?_,R.nd⟩,lb,hlB⟩
 ·cases hg:g.tag a with
  | none =>
   simp only [Gh.back,hg] at ha
   split at ha
   ·cases ha
   ·exact R.live a _ ha
  | some t' =>
   by_cases ht:t' = .frame
   ·subst ht; exact R.live a _ (hfr a hg).1
   ·have:(g.back g').tag a=match g'.tag a with | some .frame=>none | t=>t:=by
     cases t' <;> first | exact absurd rfl ht | simp [Gh.back,hg]
    rw [this] at ha
    split at ha
    ·cases ha
    ·exact R.live a _ ha
 ·have key:g'.tag a=some .base∨g'.tag a=some .tmp:=by
   cases hg:g.tag a with
   | none =>
    simp only [Gh.back,hg] at ha
    split at ha
    ·simp at ha
    ·exact ha
   | some t' =>
    by_cases ht:t' = .frame
    ·subst ht; exact .inr (hfr a hg).1
    ·have:(g.back g').tag a=match g'.tag a with | some .frame=>none | t=>t:=by
      cases t' <;> first | exact absurd rfl ht | simp [Gh.back,hg]
     rw [this] at ha
     split at ha
     ·simp at ha
     ·exact ha
  exact R.fix a key
 ·(have zq:=R.gnd a o ho; have q1:=zq.1; have q2:=zq.2)
  (have zq:=hlB a q1; have q3:=zq.1; have q4:=zq.2)
  exact ⟨q3,q4.trans q2⟩
 ·exact R₀.fr.move lb.leB (fun b hb=>⟨by simp [Gh.back,hb],(hfr b hb).2⟩) (fun b hb=>by
   (have zq:=l0.tmp b hb; have q1:=zq.1; have q2:=zq.2)
   refine ⟨(lb.tmp b hb).1,?_⟩
   rw [R.fix b (.inr q1),q2,R₀.fix b (.inr hb)])
 ·refine (R.ob a o m).move hlB fun b hb=>⟨?_,rfl⟩
  cases hg:g.tag b with
  | none=>simp [Gh.back,hg,hb]
  | some t' =>
   cases t' with
   | frame=>rw [(hfr b hg).1] at hb; cases hb
   | base=>simp [Gh.back,hg,hb]
   | tmp=>simp [Gh.back,hg,hb]
   | obj k=>simp [Gh.back,hg,hb]
end
end Mine
namespace Mine
structure Fn (K:Kc) (n:Nat) (f:Value) (vs:List V) (σ:List (Addr × O)) (v:V) (σ':List (Addr × O))  : Prop where
 go :   ∀ ⦃A:Around⦄ ⦃E:Value→Shared→Prop⦄ ⦃s:Shared⦄ ⦃Q:Value→Shared→Prop⦄ ⦃g:Gh⦄ ⦃env:Env⦄ ⦃ρ:Lo⦄ ⦃us:List Value⦄,Fit K n A→Rep K g env ρ σ s→RVs g vs us →
  (∀ g' s' u,g.le g'→Rep K g' env ρ σ' s'→RV g' v u→Q u s')→wpAny (KM K) A (call f us) Q E s
noncomputable instance {K:Kc} {n:Nat} {f:Value} {vs:List V} {σ:List (Addr × O)} {v:V} {σ':List (Addr × O)}:CoeFun (Fn K n f vs σ v σ') (fun _ =>   ∀ ⦃A:Around⦄ ⦃E:Value→Shared→Prop⦄ ⦃s:Shared⦄ ⦃Q:Value→Shared→Prop⦄ ⦃g:Gh⦄ ⦃env:Env⦄ ⦃ρ:Lo⦄ ⦃us:List Value⦄,Fit K n A→Rep K g env ρ σ s→RVs g vs us →
  (∀ g' s' u,g.le g'→Rep K g' env ρ σ' s'→RV g' v u→Q u s')→wpAny (KM K) A (call f us) Q E s):=⟨fun h=>h.go⟩
structure FnC (K:Kc) (n:Nat) (f:Value) (vs:List V) (σ:List (Addr × O)) (v:V) (σ':List (Addr × O))  : Prop where
 go :   ∀ ⦃A:Around⦄ ⦃S:Result→Shared→Prop⦄ ⦃s:Shared⦄ ⦃g:Gh⦄ ⦃env:Env⦄ ⦃ρ:Lo⦄ ⦃us:List Value⦄,Fit K n A→Rep K g env ρ σ s→RVs g vs us →
  (∀ g' s' u,g.le g'→Rep K g' env ρ σ' s'→RV g' v u→S (.ok (.ret u)) s')→codeAny (KM K) A (.call f ⟨us,[]⟩) S s
theorem FnC.fn {K:Kc} {n:Nat} {f:Value} {vs:List V} {σ:List (Addr × O)} {v:V} {σ':List (Addr × O)} (x:FnC K n f vs σ v σ'):Fn K n f vs σ v σ':=.mk fun A E s Q g env ρ us F R hu h =>
 wpAny_call (x.go F R hu h)
structure FnAt (K:Kc) (a:Addr) (fd:FuncData):Prop where
 get : ∃ o,K.s₀.heap.get? a=some o∧o.data = .func fd
 code:K.s₀.heap.CodeRec fd.code fd.qualname
 clo:fd.closure=[]
 glob:fd.globals=mainGlobals
 bui:fd.builtins=builtinsNs
section
variable {K:Kc} {n:Nat} {env cenv:Env} {ρ ρ' ρ₁ ρ₂ ρ₀ ρc:Lo} {σ σ' σ₀ σ₁ σ₂ σ₃:List (Addr × O)} {g g₀ g₁:Gh} {s s₀ s':Shared} {A:Around} {items:List W}
theorem RVs.length : ∀ {vs:List V} {us:List Value},RVs g vs us→us.length=vs.length
 | [],us,h=>by simp only [RVs] at h; subst h; rfl
 | v::vs,us,h=>by
  simp only [RVs] at h
  (refine zb2 h fun u r zq2 _ h2=>?_; subst zq2)
  simp [RVs.length h2]
theorem RVs.get : ∀ {vs:List V} {us:List Value} (k:Nat) {v:V},RVs g vs us→vs[k]? = some v→∃ u,us[k]? = some u∧RV g v u
 | [],_,k,v,h,e=>by simp at e
 | w::ws,us,k,v,h,e=>by
  simp only [RVs] at h
  (refine zb2 h fun u r zq2 h1 h2=>?_; subst zq2)
  cases k with
  | zero=>simp at e; subst e; exact ⟨u,rfl,h1⟩
  | succ k=>simp at e; simpa using RVs.get k h2 e
theorem zr7 {kindOf:Str→Option NameKind} : ∀ (binds:List (Str × Value)) (m:Str→Option Value) (x:Str),x∉binds.map (·.1)→bindL kindOf binds m x=m x
 | [],m,x,_=>rfl
 | (y,u)::r,m,x,h=>by
  unfold bindL
  rw [zr7 r _ x fun hm=>h (List.mem_cons_of_mem _ hm)]
  split
  ·have:x≠y:=fun e=>h (by simp [e])
   simp [this]
  ·rfl
theorem zo6 {kindOf:Str→Option NameKind} : ∀ (binds:List (Str × Value)) (m:Str→Option Value) (x:Str) (u:Value),(binds.map (·.1)).Nodup→(x,u)∈binds→kindOf x=some .local→bindL kindOf binds m x=some u
 | (y,w)::r,m,x,u,hn,hm,hk=>by
  (have zq:=List.nodup_cons.mp hn; have h1:=zq.1; have h2:=zq.2)
  unfold bindL
  rcases List.mem_cons.mp hm with e | hm
  ·cases e
   rw [zr7 r _ _ h1,if_pos hk]; simp
  ·exact zo6 r _ x u h2 hm hk
theorem zr8 {kindOf:Str→Option NameKind} : ∀ (binds:List (Str × Value)) (m:Str→Option Value) (x:Str),x∉binds.map (·.1)→bindC kindOf binds m x=m x
 | [],m,x,_=>rfl
 | (y,u)::r,m,x,h=>by
  unfold bindC
  rw [zr8 r _ x fun hm=>h (List.mem_cons_of_mem _ hm)]
  split
  ·rfl
  ·have:x≠y:=fun e=>h (by simp [e])
   simp [this]
theorem zo7 {kindOf:Str→Option NameKind} : ∀ (binds:List (Str × Value)) (m:Str→Option Value) (x:Str) (u:Value),(binds.map (·.1)).Nodup→(x,u)∈binds→kindOf x=some .cell→bindC kindOf binds m x=some u
 | (y,w)::r,m,x,u,hn,hm,hk=>by
  (have zq:=List.nodup_cons.mp hn; have h1:=zq.1; have h2:=zq.2)
  unfold bindC
  rcases List.mem_cons.mp hm with e | hm
  ·cases e
   rw [zr8 r _ _ h1,if_neg (by rw [hk]; simp)]; simp
  ·exact zo7 r _ x u h2 hm hk
theorem ze7 : ∀ (names:List (Str × NameKind)) (k:Nat) (acc:List (Str × Addr)) (x:Str),(acc.lookup x).isSome=true→((cellsFrom k names acc).lookup x).isSome=true
 | [],_,_,_,h=>h
 | (y,kd)::r,k,acc,x,h=>by
  unfold cellsFrom
  split
  ·refine ze7 r _ _ x ?_
   rw [List.lookup_cons]; split
   ·rfl
   ·exact h
  ·exact ze7 r _ _ x h
theorem zb0 : ∀ (names:List (Str × NameKind)) (k:Nat) (acc:List (Str × Addr)) (x:Str),names.lookup x=some .cell→((cellsFrom k names acc).lookup x).isSome=true
 | [],_,_,_,h=>by simp at h
 | (y,kd)::r,k,acc,x,h=>by
  unfold cellsFrom
  rw [List.lookup_cons] at h
  split at h
  ·rename_i e
   cases h
   simp only [beq_self_eq_true,if_true]
   exact ze7 r _ _ x (by rw [List.lookup_cons,e]; rfl)
  ·split
   ·exact zb0 r _ _ x h
   ·exact zb0 r _ _ x h
structure Pars (sc:Scope) (ps:List Str) (vs:List V) (ρ:Lo):Prop where
 cap:ρ.c=[]
 nd:(ρ.v.map (·.1)).Nodup
 pnd:ps.Nodup
 len:ps.length=vs.length
 kind : ∀ x ov,(x,ov)∈ρ.v→sc.names.lookup x=some .local∨sc.names.lookup x=some .cell
 pk : ∀ x∈ps,sc.names.lookup x=some .local∨sc.names.lookup x=some .cell
 val : ∀ (x:Str) (v:V),(x,some v)∈ρ.v→∃ i:Nat,ps[i]? = some x∧vs[i]? = some v
theorem zg3 {α β:Type} : ∀ {l:List α} {m:List β} {i:Nat} {a:α} {b:β},l[i]? = some a→m[i]? = some b→(a,b)∈l.zip m
 | [],_,i,_,_,h,_=>by simp at h
 | _::_,[],i,_,_,_,h=>by simp at h
 | x::l,y::m,0,a,b,h1,h2=>by simp at h1 h2; subst h1 h2; simp
 | x::l,y::m,i+1,a,b,h1,h2=>by simp at h1 h2; simp [zg3 h1 h2]
theorem FnC.of {a:Addr} {fd:FuncData} {ps:List Str} {body:List Stmt} {vs:List V} {v:V} {o:Out} (FA:FnAt K a fd) (hbody:fd.body = .stmts body)
  (hbind : ∀ us:List Value,us.length=vs.length→bindArgs fd ⟨us,[]⟩=pure (ps.zip us)) (P:Pars fd.scope ps vs ρ)
  (hb : ∀ env:Env,env.scope=fd.scope→Ex K n env ρ σ body o ρ' σ') (ho:o = .ret v∨(o = .next∧v = .w .none))
  (hco:fd.scope.isCoroutine=false:=by rfl) (hgen:fd.scope.isGenerator=false:=by rfl) (hk:fd.scope.kind = .function:=by rfl):FnC K (n+1) (.ref a) vs σ v σ':=.mk fun A S s g env ρ₀ us F R hu h=>by
 obtain ⟨oa,hoa,hda⟩:=FA.get
 have hz:=hu.length
 have hp:=P.len
 refine codeAny_call_cells (fd:=fd) (body:=body) (binds:=ps.zip us) (by have:=F.depth; show A.depth<1000; lia) (R.keeps _ _ hoa) hda (R.G.lim.keeps R.keeps) (FA.code.keeps R.keeps) hbody
  (hbind us hz) FA.clo (fun x hx=>?_) (fun s₁ X=>?_) hco hgen hk
 ·rcases P.pk x.1 (List.of_mem_zip hx).1 with q | q
  ·exact .inl q
  ·exact .inr ⟨q,zb0 _ _ _ _ q⟩
 ·have hnames:((ps.zip us).map (·.1))=ps:=List.map_fst_zip (by lia)
  have hndz:((ps.zip us).map (·.1)).Nodup:=by rw [hnames]; exact P.pnd
  generalize hce:callEnvC fd s.heap.objs.size a=ce at X ⊢
  have hsc:ce.scope=fd.scope:=by rw [← hce]; rfl
  have hcl:ce.cells=cellsFrom (s.heap.objs.size+1) fd.scope.names []:=by rw [← hce]; rfl
  let fr:Addr→Bool:=fun b=>decide (b=ce.locals)||ce.cells.any fun c=>decide (c.2=b)&&decide (ce.cells.lookup c.1=some c.2)
  have hko : ∀ x,ce.kindOf x=fd.scope.names.lookup x:=fun x=>by rw [Env.kindOf,hsc]
  have hvals : ∀ x ov,(x,ov)∈ρ.v→∀ w:Value,True→(ov=none∨∃ u,(x,u)∈ps.zip us∧OV (g.swap s.heap fr) ov (some u)):=by
   intro x ov hx _ _
   cases ov with
   | none=>exact .inl rfl
   | some v' =>
    obtain ⟨i,h1,h2⟩:=P.val x v' hx
    obtain ⟨u,h3,h4⟩:=hu.get i h2
    exact .inr ⟨u,zg3 h1 h3,h4.mono (g.swap_le _ _).leB⟩
  have fresh : ∀ b,fr b=true→g.tag b=none:=by
   intro b hb
   have hge:s.heap.objs.size≤b:=by
    simp only [fr,Bool.or_eq_true,Bool.and_eq_true,decide_eq_true_eq,List.any_eq_true] at hb
    rcases hb with rfl | ⟨c,hc,rfl,hlk⟩
    ·exact X.toInCall.fresh
    ·have:=X.above c.1 c.2 hc
     have:=X.toInCall.fresh
     exact Nat.le_of_lt (Nat.lt_of_le_of_lt ‹_› ‹ce.locals<c.2›)
   cases e:g.tag b with
   | none=>rfl
   | some t=>exact absurd (R.lt e) (Nat.not_lt.mpr hge)
  have hfr : ∀ b,fr b=true→(g.swap s.heap fr).tag b=some .frame:=fun b hb=>by simp [Gh.swap,fresh b hb,hb]
  have hcellfr : ∀ x c,ce.cells.lookup x=some c→fr c=true:=fun x c hc=>by
   simp only [fr,Bool.or_eq_true,Bool.and_eq_true,decide_eq_true_eq,List.any_eq_true]
   exact .inr ⟨(x,c),mem_of_lookup hc,rfl,hc⟩
  have FR:FrameAt (g.swap s.heap fr) s₁.heap ce ρ:={
   kind:=by rw [hsc]; exact hk
   glob:=by rw [← hce]; exact FA.glob
   bui:=by rw [← hce]; exact FA.bui
   nd:=P.nd
   lt:=hfr _ (by simp [fr])
   inj:=fun x y c h1 h2=>name_of_addr X.apart (mem_of_lookup h1) (mem_of_lookup h2)
   nel:=fun x c h1=>Nat.ne_of_gt (X.above x c (mem_of_lookup h1))
   var:=by
    refine ⟨_,X.toInCall.ns,fun x ov hx=>?_⟩
    rcases P.kind x ov hx with q | q
    ·refine .inl ⟨by rw [hko]; exact q,?_⟩
     rcases hvals x ov hx .none trivial with rfl | ⟨u,h1,h2⟩
     ·trivial
     ·rw [zo6 _ _ x u hndz h1 (by rw [hko]; exact q)]; exact h2
    ·have hs:((ce.cells).lookup x).isSome=true:=by rw [hcl]; exact zb0 _ _ _ _ q
     obtain ⟨c,hc⟩:=Option.isSome_iff_exists.mp hs
     refine .inr ⟨by rw [hko]; exact q,c,_,hc,hfr c (hcellfr x c hc),X.cell x c hc,?_⟩
     rcases hvals x ov hx .none trivial with rfl | ⟨u,h1,h2⟩
     ·trivial
     ·rw [zo7 _ _ x u hndz h1 (by rw [hko]; exact q)]; exact h2
   cap:=fun x v hx=>by rw [P.cap] at hx; cases hx }
  obtain ⟨h1,tk,rfl⟩:=X.toInCall.same
  have R1:=R.swapFrame (tk:=tk) fr X.toInCall.keep (fun b hb=>by
   simp only [fr,Bool.or_eq_true,Bool.and_eq_true,decide_eq_true_eq,List.any_eq_true] at hb
   rcases hb with rfl | ⟨c,hc,rfl,hlk⟩
   ·obtain ⟨o,_,_,e,_⟩:=X.toInCall.ns; exact ⟨o,e⟩
   ·obtain ⟨o,e,_⟩:=X.cell c.1 c.2 hlk
    exact ⟨o,e⟩) FR
  have F1:Fit K n (A.deeper ce):=⟨by have:=F.depth; show A.depth+1+10*n≤900; lia,by have:=F.units; show A.units+3+200*n≤9000; lia,F.hand⟩
  refine hb ce hsc F1 R1 fun g2 s2 f l2 R2 r2=>?_
  obtain ⟨R3,l3,lB⟩:=R.backFrame l2 R2
  rcases ho with rfl | ⟨rfl,rfl⟩
  ·simp only [RF] at r2
   obtain ⟨u,rfl,r2⟩:=r2
   exact h _ _ _ l3 R3 (r2.mono lB)
  ·obtain rfl:=RF.nextE r2
   exact h _ _ _ l3 R3 (by simp only [RV,RW])
theorem Fn.of {a:Addr} {fd:FuncData} {ps:List Str} {body:List Stmt} {vs:List V} {v:V} {o:Out} (FA:FnAt K a fd) (hbody:fd.body = .stmts body)
  (hbind : ∀ us:List Value,us.length=vs.length→bindArgs fd ⟨us,[]⟩=pure (ps.zip us)) (P:Pars fd.scope ps vs ρ)
  (hb : ∀ env:Env,env.scope=fd.scope→Ex K n env ρ σ body o ρ' σ') (ho:o = .ret v∨(o = .next∧v = .w .none))
  (hco:fd.scope.isCoroutine=false:=by rfl) (hgen:fd.scope.isGenerator=false:=by rfl) (hk:fd.scope.kind = .function:=by rfl):Fn K (n+1) (.ref a) vs σ v σ' :=
 (FnC.of FA hbody hbind P hb ho hco hgen hk).fn
end
end Mine
namespace Mine
section
variable {K:Kc} {n:Nat} {env cenv:Env} {ρ ρ' ρ₁ ρ₂ ρ₀ ρc:Lo} {σ σ' σ₀ σ₁ σ₂ σ₃:List (Addr × O)} {g g₀ g₁:Gh} {s s₀ s':Shared} {A:Around} {items:List W}
theorem za5 {pos:Pos} {t:List (Bool × Sem Value)}:(backTo pos t).any (·.1)=t.any (·.1):=by
 unfold backTo; rw [List.any_map]; rfl
theorem zg7 {M:Model} {E:Value→Shared→Prop} {f:Value} {trees:List (Bool × Sem Value)} {Q:Args→Shared→Prop} (hp:trees.any (·.1)=false)
  (h:wpAny M A (spliced trees) (fun vs s'=>Q ⟨vs,[]⟩ s') E s):wpAny M A (evalArgs f true trees []) Q E s:=by
 cases trees with
 | nil =>
  unfold evalArgs
  show wpAny M A (spliced [] >>= _) Q E s
  exact wpAny_bind (wpAny_mono h (fun vs s' h'=>wpAny_bind (wpAny_pure (wpAny_holding (wpAny_bind (wpAny_pure (wpAny_bind (wpAny_pure (wpAny_pure h')))))))) fun _ _ x=>x)
 | cons t ts =>
  obtain ⟨b,x⟩:=t
  have:b=false:=by
   rw [List.any_cons] at hp
   exact (Bool.or_eq_false_iff.mp hp).1
  subst this
  exact Calls.evalArgs_plain h
inductive Callee (K:Kc):Value→Prop
 | builtin (id:String):Callee K (.builtin id)
 | type (T:String):Callee K (.type T)
 | fn (a:Addr) (fd:FuncData) (h:FnAt K a fd):Callee K (.ref a)
theorem za6 {E:Value→Shared→Prop} {pos:Pos} {f:Value} {first:List Value} {trees:List (Bool × Sem Value)} {Q:Value→Shared→Prop} (C:Callee K f) (hp:trees.any (·.1)=false)
  (h:wpAny (KM K) A (spliced trees) (fun vs s'=>(∀ b o,K.s₀.heap.get? b=some o→s'.heap.get? b=some o)∧wpAny (KM K) A (call f (first++vs)) Q E s') E s) :
  wpAny (KM K) A (callWith pos f first trees []) Q E s:=by
 cases C with
 | builtin id=>exact Calls.callWith_builtin hp (zg7 hp (wpAny_mono h (fun vs s' h'=>h'.2) fun _ _ x=>x))
 | type T=>exact PySem.callWith_type hp (zg7 hp (wpAny_mono h (fun vs s' h'=>h'.2) fun _ _ x=>x))
 | fn a fd FA =>
  refine obEA FA.get fun o ho hd=>?_
  exact callWith_function_kw (o:=o) (fd:=fd) (zg7 hp (wpAny_mono h (fun vs s' h'=>⟨⟨h'.1 a o ho,hd⟩,h'.2⟩) fun _ _ x=>x))
theorem Ev.call {x:Str} {p pos:Pos} {es:List Expr} {f:Value} {vs:List V} {v:V} (h1:Ev K n env ρ (.Name x p) σ (.w (.glob f)) σ) (C:Callee K f) (h2:Evs K n env ρ es σ vs σ₁) (h3:Fn K n f vs σ₁ v σ₂)
  (hp:(starEach es env).any (·.1)=false:=by rfl):Ev K n env ρ (.Call (.Name x p) es [] pos) σ v σ₂:=.mk fun A E s Q g F R h =>
 wpAny_Call_ofName (h1 F R fun _ _ _ l1 R1 r1=>by
  simp only [RV,RW] at r1; subst r1
  refine za6 C (by rw [za5]; exact hp) ?_
  exact h2 F R1 fun g2 s2 us l2 R2 r2=>⟨R2.keeps,by rw [List.nil_append]; exact h3 F R2 r2 fun g3 s3 u l3 R3 r3=>h _ _ _ ((l1.trans l2).trans l3) R3 r3⟩)
theorem Ev.methS {o:Expr} {name:Str} {apos pos:Pos} {es:List Expr} {id:String} {q:List Nat} {vs:List V} {v:V} (h1:Ev K n env ρ o σ (.w (.str q)) σ₁) (slot:Slot "str" name id) (hty:typeOf (.builtin id)=pure (.type "method_descriptor"))
  (h2:Evs K n env ρ es σ₁ vs σ₂) (h3:Fn K n (.builtin id) (.w (.str q)::vs) σ₂ v σ₃)
  (hbase:attributeBase o name env (eval o env)=eval o env:=by rfl) (hlen:es.length+0<30:=by decide) (hline:(apos.endLine==pos.line)=true:=by rfl)
  (hp:(starEach es env).any (·.1)=false:=by rfl):Ev K n env ρ (.Call (.Attribute o name apos) es [] pos) σ v σ₃:=.mk fun A E s Q g F R h=>by
 refine wpAny_Call_method_late hbase ?_ hline rfl ?_
 ·have e:((backTo pos (starEach es env)).all fun x=>!x.1)=true:=by
   rw [List.all_eq_not_any_not]; simp only [Bool.not_not]; rw [za5,hp]; rfl
  rw [e,Bool.true_and]
  show (true&&decide (es.length+0+0<30))=true
  simpa using hlen
 ·refine h1 F R fun _ _ _ l1 R1 r1=>?_
  have r1':=r1
  simp only [RV,RW] at r1; (refine obAE r1 fun hz t zq2=>?_; subst zq2)
  refine ⟨"str",id,PySem.F.plainAttrs_str,slot,hty,typeIs_str _ _ _,(fun _ e=>nomatch e),?_⟩
  refine za6 (.builtin id) (by rw [za5]; exact hp) ?_
  exact h2 F R1 fun g2 s2 us l2 R2 r2=>⟨R2.keeps,h3 F R2 ⟨_,us,rfl,r1'.mono l2.leB,r2⟩ fun g3 s3 u l3 R3 r3=>h _ _ _ ((l1.trans l2).trans l3) R3 r3⟩
theorem Ev.methL {o:Expr} {name:Str} {apos pos:Pos} {es:List Expr} {id:String} {lv:V} {vs:List V} {v:V} (h1:Ev K n env ρ o σ lv σ₁) (hl:(∃ xs,lv = .w (.list xs))∨(∃ a xs,lv = .ref a∧(a,O.list xs)∈σ₁))
  (slot:Slot "list" name id) (hty:typeOf (.builtin id)=pure (.type "method_descriptor"))
  (h2:Evs K n env ρ es σ₁ vs σ₂) (h3:Fn K n (.builtin id) (lv::vs) σ₂ v σ₃)
  (hbase:attributeBase o name env (eval o env)=eval o env:=by rfl) (hlen:es.length+0<30:=by decide) (hline:(apos.endLine==pos.line)=true:=by rfl)
  (hp:(starEach es env).any (·.1)=false:=by rfl):Ev K n env ρ (.Call (.Attribute o name apos) es [] pos) σ v σ₃:=.mk fun A E s Q g F R h=>by
 refine wpAny_Call_method_late hbase ?_ hline rfl ?_
 ·have e:((backTo pos (starEach es env)).all fun x=>!x.1)=true:=by
   rw [List.all_eq_not_any_not]; simp only [Bool.not_not]; rw [za5,hp]; rfl
  rw [e,Bool.true_and]
  show (true&&decide (es.length+0+0<30))=true
  simpa using hlen
 ·refine h1 F R fun g1 s1 u l1 R1 r1=>?_
  have key:s1.TypeIs u "list" ∧ ∀ a,u = .ref a→∃ ob,s1.heap.get? a=some ob∧ob.dict=none:=by
   rcases hl with ⟨xs,rfl⟩ | ⟨a,xs,rfl,hm⟩
   ·(refine zd6 (RW.list R1 r1) fun a us m zq3=>?_; obtain ⟨rfl,_,e1,z1,w1⟩:=zq3)
    exact ⟨(isL e1).typeIs,fun a' e=>by cases e; exact ⟨_,e1,rfl⟩⟩
   ·obtain rfl:=RV.refE r1
    (refine zf2 (R1.ob a _ hm) fun _ _ ob us e1 zq5 w1=>?_; obtain ⟨m,rfl⟩:=zq5)
    exact ⟨(isL e1).typeIs,fun a' e=>by cases e; exact ⟨_,e1,rfl⟩⟩
  refine ⟨"list",id,PySem.F.plainAttrs_list,slot,hty,key.1,key.2,?_⟩
  refine za6 (.builtin id) (by rw [za5]; exact hp) ?_
  exact h2 F R1 fun g2 s2 us l2 R2 r2=>⟨R2.keeps,h3 F R2 ⟨_,us,rfl,r1.mono l2.leB,r2⟩ fun g3 s3 u l3 R3 r3=>h _ _ _ ((l1.trans l2).trans l3) R3 r3⟩
theorem Fn.lenL {xs:List W}:Fn K n (.builtin "len") [.w (.list xs)] σ (.w (.int xs.length)) σ:=.mk fun A E s Q g env ρ us F R hu h=>by
 simp only [RVs] at hu
 (refine zb2 hu fun u r zq2 h1 zq4=>?_; subst zq2; subst zq4)
 (refine zd6 (RW.list R h1) fun a vs m zq3=>?_; obtain ⟨rfl,_,e1,z1,w1⟩:=zq3)
 refine Calls.call_len_list (isL e1) (by have:=z1.1; rw [sizeLine_eq] at this; lia) (h _ _ _ (.refl _) (R.toks _) ?_)
 simp only [RV,RW]; exact ⟨_,by rw [z1.2]⟩
theorem Fn.lenS {p:List Nat}:Fn K n (.builtin "len") [.w (.str p)] σ (.w (.int p.length)) σ:=.mk fun A E s Q g env ρ us F R hu h=>by
 simp only [RVs,RV,RW] at hu
 (refine zb2 hu fun u r zq2 zq3 zq4=>?_; subst zq2; obtain ⟨hz,t,rfl⟩:=zq3; subst zq4)
 rw [sizeLine_eq] at hz
 refine PyProof.Rows.len_str (by simp [Str.length]; lia) (h _ _ _ (.refl _) (R.toks _) ?_)
 simp only [RV,RW]; exact ⟨s.toks+1,by simp [Str.length]⟩
theorem Fn.min2 {a b:Int} (hd:K.hd=none):Fn K n (.builtin "min") [.w (.int a),.w (.int b)] σ (.w (.int (min a b))) σ:=.mk fun A E s Q g env ρ us F R hu h=>by
 simp only [RVs,RV,RW] at hu
 (refine zc0 hu fun u r zq2 zq3 u' r' zq6 zq7 zq8=>?_; subst zq2; obtain ⟨t,rfl⟩:=zq3; subst zq6; obtain ⟨t',rfl⟩:=zq7; subst zq8)
 refine min_two_ints (by rw [F.hand,hd]) fun h' tk hk=>h _ _ _ (.refl _) (R.heap fun b t o e ho=>hk b o ho) ?_
 simp only [RV,RW]
 by_cases c:b<a
 ·rw [if_pos c]; exact ⟨_,by rw [Int.min_eq_right (Int.le_of_lt c)]⟩
 ·rw [if_neg c]; exact ⟨_,by rw [Int.min_eq_left (by lia)]⟩
theorem Fn.abs {a:Int}:Fn K n (.builtin "abs") [.w (.int a)] σ (.w (.int (if a<0 then -a else a))) σ:=.mk fun A E s Q g env ρ us F R hu h=>by
 simp only [RVs,RV,RW] at hu
 (refine zb2 hu fun u r zq2 zq3 zq4=>?_; subst zq2; obtain ⟨t,rfl⟩:=zq3; subst zq4)
 exact call_abs_int fun u tk=>h _ _ _ (.refl _) (R.toks _) (by first | exact RW.intK | exact RV.intK)
theorem Rep.obWriteT (R:Rep K g env ρ σ s) {a:Addr} {h':Heap} {tk:Nat} {o:O} {A B:List (Addr × O)} {oo:O} (ha:g.tag a=some (.obj a)) (hσ:σ=A++(a,oo)::B) (ne : ∀ b t,g.tag b=some t→t ≠ .obj a→h'.get? b=s.heap.get? b)
  (hl : ∀ b,g.tag b=some (.obj a)→∃ o,h'.get? b=some o) (ho:ObjAt K g h' a o):Rep K g env ρ (A++(a,o)::B) { s with heap:=h',toks:=tk }:=by
 have nd:=R.nd
 refine obEE R.sh fun h t e=>?_
 refine ⟨R.G,R.hd,?_,fun b t hb=>?_,fun b hb=>?_,R.gnd,?_,fun b o' m=>?_,?_⟩
 ·subst e; exact ⟨h',tk,rfl⟩
 ·show ∃ o,h'.get? b=some o
  by_cases e:t = .obj a
  ·subst e; exact hl b hb
  ·rw [ne b t hb e]; exact R.live b t hb
 ·rcases hb with hb | hb
  ·exact (ne b _ hb (by simp)).trans (R.fix b (.inl hb))
  ·exact (ne b _ hb (by simp)).trans (R.fix b (.inr hb))
 ·exact R.fr.move (fun b e=>⟨e,rfl⟩) (fun b e=>⟨e,ne b _ e (by simp)⟩) (fun b e=>⟨e,ne b _ e (by simp)⟩)
 ·have other:(b,o')∈σ→b≠a→ObjAt K g h' b o':=fun hm hba=>(R.ob b o' hm).move (fun c hc=>⟨hc,rfl⟩) fun c hc=>⟨hc,ne c _ hc (by intro e; cases e; exact hba rfl)⟩
  rw [hσ,List.map_append,List.map_cons] at nd
  have nd':=List.nodup_append.mp nd
  rcases List.mem_append.mp m with m1 | m1
  ·exact other (by rw [hσ]; exact List.mem_append_left _ m1) fun e=>by
    have q:b∈A.map Prod.fst:=List.mem_map_of_mem (f:=Prod.fst) m1
    exact nd'.2.2 _ q _ List.mem_cons_self e
  ·rcases List.mem_cons.mp m1 with m1 | m1
   ·cases m1; exact ho
   ·exact other (by rw [hσ]; exact List.mem_append_right _ (List.mem_cons_of_mem _ m1)) fun e=>by
     have q:b∈B.map Prod.fst:=List.mem_map_of_mem (f:=Prod.fst) m1
     exact (List.nodup_cons.mp nd'.2.1).1 (e ▸ q)
 ·rw [hσ] at nd
  simpa using nd
theorem Rep.obWrite (R:Rep K g env ρ σ s) {a:Addr} {h':Heap} {tk:Nat} {o:O} {A B:List (Addr × O)} {oo:O} (ha:g.tag a=some (.obj a)) (hσ:σ=A++(a,oo)::B) (hs : ∀ b,g.tag b≠some (.obj a)→h'.get? b=s.heap.get? b)
  (hl : ∀ b,g.tag b=some (.obj a)→∃ o,h'.get? b=some o) (ho:ObjAt K g h' a o):Rep K g env ρ (A++(a,o)::B) { s with heap:=h',toks:=tk } :=
 R.obWriteT ha hσ (fun b t hb ht=>hs b (by rw [hb]; intro e; cases e; exact ht rfl)) hl ho
inductive SetO:List (Addr × O)→Addr→O→O→List (Addr × O)→Prop
 | head {a o o' B}:SetO ((a,o)::B) a o o' ((a,o')::B)
 | tail {p B a o o' B'}:SetO B a o o' B'→SetO (p::B) a o o' (p::B')
theorem SetO.split {l:List (Addr × O)} {a o o' l'} (h:SetO l a o o' l') : ∃ A B,l=A++(a,o)::B∧l'=A++(a,o')::B:=by
 induction h with
 | head=>exact ⟨[],_,rfl,rfl⟩
 | tail h ih=>refine zc7 ih fun A B e1 e2=>?_; exact ⟨_::A,B,by rw [e1]; rfl,by rw [e2]; rfl⟩
theorem RWs.snoc {xs:List W} {us:List Value} {x:W} {u:Value} (h:RWs g xs us) (hx:RW g x u):RWs g (xs++[x]) (us++[u]):=h.append (.cons hx .nil)
theorem zs0 {E:Value→Shared→Prop} {Q:Value→Shared→Prop} {l:Addr} {vs:Array Value} {m:Nat} {u:Value} (ho:s.heap.get? l=some { cls:=.type "list",dict:=none,data:=.seq vs m,slots := #[] }) (hz:vs.size≤sizeLine)
  (h : ∀ h' m',h'.get? l=some { cls:=.type "list",dict:=none,data:=.seq (vs.push u) m',slots := #[] }→Heap.SameBut l s.heap h'→Q .none { s with heap:=h' }) :
  wpAny (KM K) A (PySem.call (.builtin "list.append") [.ref l,u]) Q E s:=by
 refine wpAny_call_entry slot_list_append (isL ho).typeIs entry_list_append ?_ (args_list_append _ _)
 show wpAny _ _ (updateSeq l (·.push u) >>= fun _=>ret .none) _ _ s
 refine wpAny_bind ?_
 refine wpAny_updateSeq ho rfl (wpAny_pure ⟨.none,rfl,h _ _ (Heap.get?_update_self _ ho rfl) (Heap.SameBut.update ..)⟩)
theorem Fn.append {a:Addr} {xs:List W} {x:W} (hs:SetO σ a (.list xs) (.list (xs++[x])) σ') (hz:xs.length<sizeLine):Fn K n (.builtin "list.append") [.ref a,.w x] σ (.w .none) σ':=.mk fun A E s Q g env ρ us F R hu h=>by
 simp only [RVs,RV] at hu
 (refine zc0 hu fun u r zq2 zq3 u' r' zq6 h1 zq8=>?_; subst zq2; subst zq3; subst zq6; subst zq8)
 refine zc7 hs.split fun S1 S2 e1 e2=>?_
 (refine zf2 (R.ob a (.list xs) (by rw [e1]; simp)) fun ht _ ob vs ho zq5 w1=>?_; obtain ⟨m,rfl⟩:=zq5)
 have hlen:=w1.length
 refine zs0 ho (by simp at hlen; lia) fun h' m' ho' hs'=>h _ _ _ (.refl _) (e2 ▸ R.obWrite (tk:=s.toks) ht e1 (fun b hb=>hs'.2 b fun e=>by subst e; exact hb ht) (fun b hb=>?_) ?_) (by simp only [RV,RW])
 ·by_cases e:b=a
  ·subst e; exact ⟨_,ho'⟩
  ·obtain ⟨o,ho2⟩:=R.live b _ hb
   exact ⟨o,(hs'.2 b e).trans ho2⟩
 ·exact ⟨ht,by simp; assumption,_,_,ho',⟨_,rfl⟩,by simpa using w1.snoc h1⟩
end
end Mine
namespace Mine
section
variable {K:Kc} {n:Nat} {env cenv:Env} {ρ ρ' ρ₁ ρ₂ ρ₀ ρc:Lo} {σ σ' σ₀ σ₁ σ₂ σ₃:List (Addr × O)} {g g₀ g₁:Gh} {s s₀ s':Shared} {A:Around} {items:List W}
theorem zg9 {env:Env} : ∀ (names:List (Str × NameKind)) (acc:List (Str × Addr)),(∀ x,(x,NameKind.free)∈names→∃ c,env.cells.lookup x=some c) →
  ∃ cl:List (Str × Addr),(forIn names acc (fun (p:Str × NameKind) (r:List (Str × Addr))=>if (p.2==NameKind.free)=true then (do let a ← cellOf env p.1; pure (ForInStep.yield ((p.1,a)::r))) else pure (ForInStep.yield r)):Sem (List (Str × Addr)))=pure cl ∧
   (∀ x c,(x,c)∈cl→(x,c)∈acc∨(env.cells.lookup x=some c∧(x,NameKind.free)∈names))∧(∀ x c,acc.lookup x=some c→env.cells.lookup x=some c→cl.lookup x=some c)∧(∀ x c,(x,NameKind.free)∈names→env.cells.lookup x=some c→(∀ c',acc.lookup x=some c'→c'=c)→cl.lookup x=some c)
 | [],acc,_=>⟨acc,rfl,fun x c h=>.inl h,fun x c h _=>h,fun x c h=>(nomatch h)⟩
 | (y,k)::r,acc,h=>by
  by_cases hk:(k==NameKind.free)=true
  ·have hk':k = .free:=by simpa using hk
   subst hk'
   obtain ⟨c,hc⟩:=h y List.mem_cons_self
   refine zf9 (zg9 r ((y,c)::acc) fun x hx=>h x (List.mem_cons_of_mem _ hx)) fun cl h1 h2 h3 h4=>?_
   refine ⟨cl,?_,fun x d hd=>?_,fun x d hd he=>?_,fun x d hx he hu=>?_⟩
   ·rw [List.forIn_cons]
    simp only [beq_self_eq_true,if_true]
    unfold cellOf
    rw [hc]
    exact h1
   ·rcases h2 x d hd with q | q
    ·rcases List.mem_cons.mp q with e | q
     ·cases e; exact .inr ⟨hc,List.mem_cons_self⟩
     ·exact .inl q
    ·exact .inr ⟨q.1,List.mem_cons_of_mem _ q.2⟩
   ·refine h3 x d ?_ he
    rw [List.lookup_cons]
    split
    ·rename_i e
     have:x=y:=by simpa using e
     subst this
     rw [hc] at he; cases he; rfl
    ·exact hd
   ·rcases List.mem_cons.mp hx with e | hx
    ·cases e
     rw [hc] at he; cases he
     exact h3 _ _ (by rw [List.lookup_cons]; simp) hc
    ·refine h4 x d hx he fun c' hc'=>?_
     rw [List.lookup_cons] at hc'
     split at hc'
     ·rename_i e
      have:x=y:=by simpa using e
      subst this
      cases hc'
      rw [hc] at he; cases he; rfl
     ·exact hu c' hc'
  ·refine zf9 (zg9 r acc fun x hx=>h x (List.mem_cons_of_mem _ hx)) fun cl h1 h2 h3 h4=>?_
   refine ⟨cl,?_,fun x d hd=>(h2 x d hd).imp id fun q=>⟨q.1,List.mem_cons_of_mem _ q.2⟩,h3,fun x d hx he hu=>?_⟩
   ·rw [List.forIn_cons]
    simp only [hk,if_false]
    exact h1
   ·rcases List.mem_cons.mp hx with e | hx
    ·cases e; exact absurd rfl hk
    ·exact h4 x d hx he hu
theorem zx2 {scope:Scope} {env:Env} (h : ∀ x,(x,NameKind.free)∈scope.names→∃ c,env.cells.lookup x=some c) :
  ∃ cl,closureFor scope env=pure cl∧(∀ x c,(x,c)∈cl→env.cells.lookup x=some c∧(x,NameKind.free)∈scope.names)∧(∀ x c,(x,NameKind.free)∈scope.names→env.cells.lookup x=some c→cl.lookup x=some c):=by
 refine zf9 (zg9 scope.names [] h) fun cl h1 h2 h3 h4=>?_
 refine ⟨cl,?_,fun x c hx=>(h2 x c hx).elim (fun q=>nomatch q) id,fun x c hx he=>h4 x c hx he fun c' h=>by simp at h⟩
 have e:closureFor scope env=((forIn scope.names [] (fun (p:Str × NameKind) (r:List (Str × Addr))=>if (p.2==NameKind.free)=true then (do let a ← cellOf env p.1; pure (ForInStep.yield ((p.1,a)::r))) else pure (ForInStep.yield r)):Sem (List (Str × Addr))) >>= fun r=>pure r):=rfl
 rw [e,h1]; rfl
theorem zc9 : ∀ (names:List (Str × NameKind)) (k:Nat) (acc:List (Str × Addr)),cellsFrom k names acc=cellsFrom k names []++acc
 | [],_,_=>rfl
 | (y,kd)::r,k,acc=>by
  unfold cellsFrom
  split
  ·rw [zc9 r (k+1) ((y,k)::acc),zc9 r (k+1) [(y,k)]]; simp
  ·exact zc9 r k acc
theorem zg5 {α:Type} (l m:List (Str × α)) (x:Str):(l++m).lookup x=(l.lookup x).or (m.lookup x):=by
 induction l with
 | nil=>simp
 | cons p l ih =>
  obtain ⟨y,a⟩:=p
  rw [List.cons_append,List.lookup_cons,List.lookup_cons]
  split
  ·rfl
  ·exact ih
theorem zn1 {scope:Scope} {env:Env} : ∀ {names:List (Str × NameKind)} {x:Str},names.lookup x=some .free →
  (names.map fun (n,k)=>if (k==NameKind.free&&env.scope.kind == .function&&env.kindOf n==some .cell) then (n,NameKind.cell) else (n,k)).lookup x=some .cell ∨
  (names.map fun (n,k)=>if (k==NameKind.free&&env.scope.kind == .function&&env.kindOf n==some .cell) then (n,NameKind.cell) else (n,k)).lookup x=some .free
 | [],x,h=>by simp at h
 | (y,k)::r,x,h=>by
  have ih:=@zn1 scope env r x
  rw [List.map_cons]
  cases hxy:x==y with
  | true =>
   simp only [List.lookup_cons,hxy] at h
   cases h
   by_cases hc:(NameKind.free==NameKind.free&&env.scope.kind == .function&&env.kindOf y==some .cell)=true
   ·simp only [hc,if_true,List.lookup_cons,hxy]; exact .inl trivial
   ·rw [Bool.not_eq_true] at hc
    simp only [hc,List.lookup_cons,hxy,Bool.false_eq_true,if_false]; exact .inr trivial
  | false =>
   simp only [List.lookup_cons,hxy] at h
   by_cases hc:(k==NameKind.free&&env.scope.kind == .function&&env.kindOf y==some .cell)=true
   ·simp only [hc,if_true,List.lookup_cons,hxy]; exact ih h
   ·rw [Bool.not_eq_true] at hc
    simp only [hc,List.lookup_cons,hxy,Bool.false_eq_true,if_false]; exact ih h
theorem zg2 {scope:Scope} {env:Env} {kd:NameKind} (hkd:kd ≠ .free) : ∀ {names:List (Str × NameKind)} {x:Str},names.lookup x=some kd →
  (names.map fun (n,k)=>if (k==NameKind.free&&env.scope.kind == .function&&env.kindOf n==some .cell) then (n,NameKind.cell) else (n,k)).lookup x=some kd
 | [],x,h=>by simp at h
 | (y,k)::r,x,h=>by
  have ih:=@zg2 scope env kd hkd r x
  rw [List.map_cons]
  cases hxy:x==y with
  | true =>
   simp only [List.lookup_cons,hxy] at h
   cases h
   have:(kd==NameKind.free)=false:=by simpa using hkd
   simp only [this,Bool.false_and,Bool.false_eq_true,if_false,List.lookup_cons,hxy]
  | false =>
   simp only [List.lookup_cons,hxy] at h
   by_cases hc:(k==NameKind.free&&env.scope.kind == .function&&env.kindOf y==some .cell)=true
   ·simp only [hc,if_true,List.lookup_cons,hxy]; exact ih h
   ·rw [Bool.not_eq_true] at hc
    simp only [hc,List.lookup_cons,hxy,Bool.false_eq_true,if_false]; exact ih h
theorem zL8 {E:Value→Shared→Prop} {scope:Scope} {globals:Addr} {cl:List (Str × Addr)} {Q:Env→Shared→Prop} (hk:scope.kind = .function)
  (h : ∀ h',(∀ b o,s.heap.get? b=some o→h'.get? b=some o)→h'.Ns s.heap.objs.size (fun _=>none)→CellsOk h' (s.heap.objs.size+1) (cellsFrom (s.heap.objs.size+1) scope.names []) →
   Q (newEnv scope s.heap.objs.size globals (cellsFrom (s.heap.objs.size+1) scope.names []++cl) env.qual none .none (some env) builtinsNs) { s with heap:=h' }) :
  wpAny (KM K) A (newFunctionEnv scope globals cl [] env.qual none .none (some env)) Q E s:=by
 simp only [newFunctionEnv,Option.isSome_some,if_true]
 refine wpAny_bind (wpAny_alloc ?_)
 refine wpAny_bind (wpAny_layCells _ (fun name kind cells=>by cases hkc:kind==NameKind.cell <;> simp [hkc]) _ _ _ _ ?_)
 have ok:=cellsFrom_ok scope.names (s.heap.push { cls:=.type "dict",data:=.dict #[] }) (s.heap.objs.size+1) [] ⟨fun _ _ hm=>(nomatch hm),List.Pairwise.nil⟩ (by rw [Heap.size_push]; exact Nat.le_refl _)
 rw [Heap.size_push] at ok
 rw [show ({ s with heap:=s.heap.push { cls:=.type "dict",data:=.dict #[] } }:Shared).heap.objs.size=s.heap.objs.size+1 from Heap.size_push ..]
 rw [List.forIn_nil]
 refine wpAny_bind (wpAny_pure (wpAny_pure ?_))
 rw [zc9]
 exact h _ (fun b o e=>pushCells_keeps _ _ b o (Heap.get?_push_of_some _ e)) ((Heap.Ns.new s.heap (.type "dict")).keeps (pushCells_keeps _ _)) ok
end
end Mine
namespace Mine
section
variable {K:Kc} {n:Nat} {env cenv:Env} {ρ ρ' ρ₁ ρ₂ ρ₀ ρc:Lo} {σ σ' σ₀ σ₁ σ₂ σ₃:List (Addr × O)} {g g₀ g₁:Gh} {s s₀ s':Shared} {A:Around} {items:List W}
theorem zB7 {R:Result→Shared→Prop} {elt target iter:Expr} {ifs:List Expr} {scope:Scope} {pos:Pos} {it acc:Value} {env:Env} (I:Nat→Shared→Prop)
  (turn : ∀ n s,I n s→wpAny (KM K) A (pyNext it) (fun r s₁=>match r with
   | none=>R (.ok .next) s₁
   | some v=>wpAny (KM K) A (letOwnedTupleGo target it v) (fun _ s₀=>wpAny (KM K) A (assign target env v) (fun _ s₂ =>
     wpAny (KM K) A (forIn ifs true fun c r=>if r=true then do let ok ← isTrue c env (eval c env); pure (ForInStep.yield ok) else pure (ForInStep.yield r)) (fun ok s₃ =>
      if ok=true then wpAny (KM K) A (eval elt env) (fun x s₄ =>
       wpAny (KM K) A (call (.builtin "list.append") [acc,x]) (fun _ s₅=>∃ m,m<n∧I m s₅) (notedBy (KM K) A env fun e s'=>R (.error e) s') s₄) (notedBy (KM K) A env fun e s'=>R (.error e) s') s₃
      else ∃ m,m<n∧I m s₃) (notedBy (KM K) A env fun e s'=>R (.error e) s') s₂) (notedBy (KM K) A env fun e s'=>R (.error e) s') s₀) (notedBy (KM K) A env fun e s'=>R (.error e) s') s₁) (notedBy (KM K) A env fun e s'=>R (.error e) s') s)
  (n:Nat) (h:I n s):codeAny (KM K) A (.compLoop (.ListComp elt [⟨target,iter,ifs,0⟩] scope pos) 0 it acc env) R s:=by
 refine codeAny_loop rfl I (fun n s hI=>?_) n h
 show wpAny _ A ((compTurn (.ListComp elt [⟨target,iter,ifs,0⟩] scope pos) 0 it acc env).onRaise (fun x=>do noteFrame x env; theTreesLotGoes x)) _ _ s
 refine wpAny_noted ?_
 rw [compTurn_list]
 refine wpAny_bind (wpAny_standAt (wpAny_bind (wpAny_mono (turn n s hI) (fun r s₁ h₁=>?_) fun _ _ h'=>h')))
 cases r with
 | none=>exact wpAny_pure h₁
 | some v =>
  refine wpAny_bind (wpAny_mono h₁ (fun _ s₀ h₀=>?_) fun _ _ h'=>h')
  refine wpAny_bind (wpAny_mono h₀ (fun _ s₂ h₂=>wpAny_bind (wpAny_mono h₂ (fun ok s₃ h₃=>?_) fun _ _ h'=>h')) fun _ _ h'=>h')
  cases ok with
  | false=>exact wpAny_pure ⟨rfl,h₃⟩
  | true =>
   exact wpAny_bind (wpAny_bind (wpAny_mono h₃ (fun x s₄ h₄=>wpAny_bind (wpAny_mono h₄ (fun _ s₅ h₅=>wpAny_pure (wpAny_pure ⟨rfl,h₅⟩)) fun _ _ h'=>h')) fun _ _ h'=>h'))
structure TsC (K:Kc) (n:Nat) (env:Env) (ρ:Lo) (ifs:List Expr) (σ:List (Addr × O)) (b:Bool) (σ':List (Addr × O))  : Prop where
 go :   ∀ ⦃A:Around⦄ ⦃E:Value→Shared→Prop⦄ ⦃s:Shared⦄ ⦃Q:Bool→Shared→Prop⦄ ⦃g:Gh⦄,Fit K n A→Rep K g env ρ σ s →
  (∀ g' s',g.le g'→Rep K g' env ρ σ' s'→Q b s')→wpAny (KM K) A (forIn ifs true fun c r=>if r=true then do let ok ← isTrue c env (eval c env); pure (ForInStep.yield ok) else pure (ForInStep.yield r)) Q E s
noncomputable instance {K:Kc} {n:Nat} {env:Env} {ρ:Lo} {ifs:List Expr} {σ:List (Addr × O)} {b:Bool} {σ':List (Addr × O)}:CoeFun (TsC K n env ρ ifs σ b σ') (fun _ =>   ∀ ⦃A:Around⦄ ⦃E:Value→Shared→Prop⦄ ⦃s:Shared⦄ ⦃Q:Bool→Shared→Prop⦄ ⦃g:Gh⦄,Fit K n A→Rep K g env ρ σ s →
  (∀ g' s',g.le g'→Rep K g' env ρ σ' s'→Q b s')→wpAny (KM K) A (forIn ifs true fun c r=>if r=true then do let ok ← isTrue c env (eval c env); pure (ForInStep.yield ok) else pure (ForInStep.yield r)) Q E s):=⟨fun h=>h.go⟩
theorem TsC.nil:TsC K n env ρ [] σ true σ:=.mk fun _ _ _ _ _ F R h=>wpAny_tests_nil (h _ _ (.refl _) R)
theorem TsC.one {c:Expr} {b:Bool} (h1:Ts K n env ρ c σ b σ'):TsC K n env ρ [c] σ b σ':=.mk fun _ _ _ _ _ F R h=>wpAny_tests_one (h1 F R h)
structure Caps (K:Kc) (env:Env) (ρ:Lo) (scope:Scope) (ρc:Lo):Prop where
 kind:scope.kind = .function
 nd:(ρc.v.map (·.1)).Nodup
 own : ∀ x ov,(x,ov)∈ρc.v→ov=none∧(scope.names.lookup x=some .local∨scope.names.lookup x=some .cell)
 cap : ∀ x v,(x,v)∈ρc.c→scope.names.lookup x=some .free∧(x,NameKind.free)∈scope.names∧((env.kindOf x=some .cell∧(x,some v)∈ρ.v)∨(x,v)∈ρ.c)
 all : ∀ x,(x,NameKind.free)∈scope.names→∃ v,(x,v)∈ρc.c
 names : ∀ x∈scope.names,x.2 = .local→scope.names.lookup x.1=some .local
 sep : ∀ x,(x,NameKind.free)∈scope.names→(cellsFrom 0 scope.names []).lookup x=none
theorem zf7 : ∀ (names:List (Str × NameKind)) (k k':Nat) (acc:List (Str × Addr)) (acc':List (Str × Addr)) (x:Str),(cellsFrom k names acc).lookup x=none→(acc'.lookup x=none)→(cellsFrom k' names acc').lookup x=none
 | [],_,_,acc,acc',x,_,h=>h
 | (y,kd)::r,k,k',acc,acc',x,h,h'=>by
  unfold cellsFrom at h ⊢
  split at h
  ·rename_i hk
   rw [if_pos hk]
   refine zf7 r _ _ _ _ x h ?_
   rw [List.lookup_cons]
   split
   ·rename_i e
    have:((cellsFrom (k+1) r ((y,k)::acc)).lookup x).isSome=true:=ze7 r _ _ x (by rw [List.lookup_cons,e]; rfl)
    rw [h] at this; cases this
   ·exact h'
  ·rename_i hk
   rw [if_neg hk]
   exact zf7 r _ _ _ _ x h h'
theorem Caps.cell (C:Caps K env ρ scope ρc) (R:Rep K g env ρ σ s) {x:Str} {v:V} (h:(x,v)∈ρc.c) :
  ∃ c u,env.cells.lookup x=some c∧(g.tag c=some .frame∨g.tag c=some .tmp)∧s.heap.IsCell c (some u)∧RV g v u:=by
 (have zq:=C.cap x v h; have zq2:=zq.2.2; obtain h | h:=zq2)
 ·(have hk:=h.1; have hm:=h.2)
  refine obEA R.fr.var fun m hn hv=>?_
  rcases hv x _ hm with ⟨h1,_⟩ | ⟨h1,c,u,h2,h3,h4,h5⟩
  ·rw [hk] at h1; cases h1
  ·cases u with
   | none=>exact h5.elim
   | some u=>exact ⟨c,u,h2,.inl h3,h4,h5⟩
 ·refine zc5 (R.fr.cap x v h) fun _ c u h2 h3 h4 h5=>?_
  exact ⟨c,u,h2,.inr h3,h4,h5⟩
theorem Caps.frame {scope:Scope} {cl:List (Str × Addr)} {h':Heap} {L:Addr} (C:Caps K env ρ scope ρc) (R:Rep K g env ρ σ s) (hL:s.heap.objs.size≤L)
  (hcl1 : ∀ x c,(x,c)∈cl→env.cells.lookup x=some c∧(x,NameKind.free)∈scope.names) (hcl2 : ∀ x c,(x,NameKind.free)∈scope.names→env.cells.lookup x=some c→cl.lookup x=some c)
  (hk : ∀ b o,s.heap.get? b=some o→h'.get? b=some o) (hn:h'.Ns L (fun _=>none)) (ok:CellsOk h' (L+1) (cellsFrom (L+1) scope.names []))
  (fr:Addr→Bool) (hfr : ∀ b,fr b=true↔b=L∨∃ x,(x,b)∈cellsFrom (L+1) scope.names []) {ce:Env} (e1:ce.scope=relabel scope env) (e2:ce.locals=L) (e3:ce.globals=env.globals)
  (e4:ce.cells=cellsFrom (L+1) scope.names []++cl) (e5:ce.builtins=builtinsNs):FrameAt (g.swap s.heap fr) h' ce ρc:=by
 have own_ge : ∀ x c,(x,c)∈cellsFrom (L+1) scope.names []→L+1≤c:=fun x c h=>(ok.empty x c h).2
 have cl_lt : ∀ x c,(x,c)∈cl→c<s.heap.objs.size:=fun x c h=>by
  (have zq:=hcl1 x c h; have q0:=zq.1; have hf:=zq.2)
  obtain ⟨v,hv⟩:=C.all x hf
  refine zh7 (C.cell R hv) fun c' u q1 q2 q3 q4=>?_
  rw [q0] at q1; cases q1
  exact q3.lt
 have look : ∀ x c,ce.cells.lookup x=some c→(cellsFrom (L+1) scope.names []).lookup x=some c∨cl.lookup x=some c:=fun x c h=>by
  rw [e4,zg5] at h
  cases hq:(cellsFrom (L+1) scope.names []).lookup x with
  | none=>rw [hq] at h; exact .inr h
  | some c'=>rw [hq] at h; exact .inl h
 have tagL : ∀ b,s.heap.objs.size≤b→fr b=true→(g.swap s.heap fr).tag b=some .frame:=fun b hb hf=>by
  have:g.tag b=none:=by
   cases e:g.tag b with
   | none=>rfl
   | some t=>exact absurd (R.lt e) (Nat.not_lt.mpr hb)
  simp [Gh.swap,this,hf]
 have hko : ∀ x,ce.kindOf x=(relabel scope env).names.lookup x:=fun x=>by rw [Env.kindOf,e1]
 exact {
  kind:=by rw [e1]; exact C.kind
  glob:=by rw [e3]; exact R.fr.glob
  bui:=e5
  nd:=C.nd
  lt:=by rw [e2]; exact tagL L hL ((hfr L).mpr (.inl rfl))
  inj:=fun x y c h1 h2=>by
   rcases look x c h1 with h1 | h1 <;> rcases look y c h2 with h2 | h2
   ·exact name_of_addr ok.apart (mem_of_lookup h1) (mem_of_lookup h2)
   ·exact absurd (cl_lt y c (mem_of_lookup h2)) (Nat.not_lt.mpr (Nat.le_trans hL (Nat.le_of_succ_le (own_ge x c (mem_of_lookup h1)))))
   ·exact absurd (cl_lt x c (mem_of_lookup h1)) (Nat.not_lt.mpr (Nat.le_trans hL (Nat.le_of_succ_le (own_ge y c (mem_of_lookup h2)))))
   ·exact R.fr.inj x y c (hcl1 x c (mem_of_lookup h1)).1 (hcl1 y c (mem_of_lookup h2)).1
  nel:=fun x c h1=>by
   rw [e2]
   rcases look x c h1 with h1 | h1
   ·exact Nat.ne_of_gt (own_ge x c (mem_of_lookup h1))
   ·exact Nat.ne_of_lt (Nat.lt_of_lt_of_le (cl_lt x c (mem_of_lookup h1)) hL)
  var:=by
   refine ⟨fun _=>none,by rw [e2]; exact hn,fun x ov hx=>?_⟩
   (have zq:=C.own x ov hx; have zq0:=zq.1; have hkind:=zq.2; subst zq0)
   rcases hkind with hkind | hkind
   ·exact .inl ⟨by rw [hko]; exact zg2 (scope:=scope) (by simp) hkind,trivial⟩
   ·obtain ⟨c,hc⟩:=Option.isSome_iff_exists.mp (zb0 scope.names (L+1) [] x hkind)
    have hm:=mem_of_lookup hc
    refine .inr ⟨by rw [hko]; exact zg2 (scope:=scope) (by simp) hkind,c,none,?_,tagL c (Nat.le_trans hL (Nat.le_of_succ_le (own_ge x c hm))) ((hfr c).mpr (.inr ⟨x,hm⟩)),(ok.empty x c hm).1,trivial⟩
    rw [e4,zg5,hc]; rfl
  cap:=fun x v hx=>by
   refine zh7 (C.cell R hx) fun c u q1 q2 q3 q4=>?_
   (have zq:=C.cap x v hx; have hl:=zq.1; have hm:=zq.2.1)
   refine ⟨by rw [hko]; exact zn1 (scope:=scope) hl,c,u,?_,?_,q3.keeps hk,q4.mono (g.swap_le _ _).leB⟩
   ·rw [e4,zg5,zf7 scope.names 0 (L+1) [] [] x (C.sep x hm) rfl,Option.none_or]
    exact hcl2 x c hm q1
   ·rcases q2 with q2 | q2
    ·simp [Gh.swap,q2]
    ·simp [Gh.swap,q2] }
end
end Mine
namespace Mine
section
variable {K:Kc} {n:Nat} {env cenv ce:Env} {ρ ρ' ρ₁ ρ₂ ρ₀ ρc:Lo} {σ σ' σ₀ σ₁ σ₂ σ₃:List (Addr × O)} {g g₀ g₁ g₂ g₄:Gh} {s s₀ s' s₄:Shared} {A:Around} {items:List W}
structure Mid (K:Kc) (ce:Env) (ρ:Lo) (σ:List (Addr × O)) (g₄:Gh) (St:Nat→Heap→Prop) (wr:List Addr) (acc:Addr) (out:List W) (k:Nat) (s:Shared) (g:Gh) (vs:Array Value) (mm:Nat):Prop where
 le:g₄.le (g.set acc none default)
 rep:Rep K g ce ρ σ s
 st:St k s.heap
 wr0 : ∀ b∈wr,g.tag b=none
 at':g.tag acc=some .tmp
 co:g.con acc = { cls:=.type "list",dict:=none,data:=.seq vs mm,slots := #[] }
 ws:RWs g out vs.toList
theorem Gh.le_unset {g₄ g:Gh} {a:Addr} (h:g₄.tag a=none) (hl:g₄.le g) (o:Obj):g₄.le (g.set a none o) :=
 ⟨fun b hb=>by
  have e:b≠a:=by rintro rfl; rw [h] at hb; cases hb
  rw [(g.set_ne _ _ e).1,(g.set_ne _ _ e).2]; exact hl.base b hb,fun b hb=>by
  have e:b≠a:=by rintro rfl; rw [h] at hb; cases hb
  rw [(g.set_ne _ _ e).1,(g.set_ne _ _ e).2]; exact hl.tmp b hb⟩
theorem Gh.le_of_unset {g₄ g:Gh} {a:Addr} {o:Obj} (h:g₄.tag a=none) (hl:g₄.le (g.set a none o)):g₄.le g :=
 ⟨fun b hb=>by
  have e:b≠a:=by rintro rfl; rw [h] at hb; cases hb
  have:=hl.base b hb
  rw [(g.set_ne _ _ e).1,(g.set_ne _ _ e).2] at this; exact this,fun b hb=>by
  have e:b≠a:=by rintro rfl; rw [h] at hb; cases hb
  have:=hl.tmp b hb
  rw [(g.set_ne _ _ e).1,(g.set_ne _ _ e).2] at this; exact this⟩
theorem zU6 {Rr:Result→Shared→Prop} {I acc:Addr} {fp wr:List Addr} {St:Nat→Heap→Prop} {elt target iter:Expr} {ifs:List Expr} {scope:Scope} {pos:Pos} (F:Fit K n A)
  (Wi:Wk K A I fp wr items g₂ St target) (ρs:Nat→Lo) (σs:Nat→List (Addr × O)) (outs:Nat→List W) (h0:outs 0=[]) (hz:items.length≤sizeLine)
  (hb : ∀ k x,items[k]? = some x→Bind K n ce target x (ρs k) (ρs (k+1)) ∧
   ((TsC K n ce (ρs (k+1)) ifs (σs k) false (σs (k+1))∧outs (k+1)=outs k) ∨
    (∃ σm y,TsC K n ce (ρs (k+1)) ifs (σs k) true σm∧Ev K n ce (ρs (k+1)) elt σm (.w y) (σs (k+1))∧outs (k+1)=outs k++[y])))
  (hc : ∀ k,(ρs k).c=(ρs 0).c) (R₄:Rep K g₄ ce (ρs 0) (σs 0) s₄) (l24:g₂.le g₄) (hw4 : ∀ b∈wr,g₄.tag b=none) (ha4:g₄.tag acc=none) (ha2:g₂.tag acc=none) (hafp:acc∉fp) (hst:St 0 s₄.heap)
  (hacc:s₄.heap.get? acc=some { cls:=.type "list",dict:=none,data:=.seq #[] 0,slots := #[] })
  (hR : ∀ g' s' vs m,g₄.le g'→Rep K g' ce (ρs items.length) (σs items.length) s'→g'.tag acc=none→s'.heap.get? acc=some { cls:=.type "list",dict:=none,data:=.seq vs m,slots := #[] }→RWs g' (outs items.length) vs.toList→Rr (.ok .next) s') :
  codeAny (KM K) A (.compLoop (.ListComp elt [⟨target,iter,ifs,0⟩] scope pos) 0 (.ref I) (.ref acc) ce) Rr s₄:=by
 have hawr:acc∉wr:=fun h=>hafp (Wi.sub _ h)
 have houts : ∀ k,k≤items.length→(outs k).length≤k:=by
  intro k
  induction k with
  | zero=>intro _; rw [h0]; simp
  | succ k ih =>
   intro hk
   obtain ⟨x,hx⟩ : ∃ x,items[k]? = some x:=⟨items[k],List.getElem?_eq_getElem (by assumption)⟩
   have:=ih (by exact Nat.le_of_lt ‹_›)
   rcases (hb k x hx).2 with ⟨_,e⟩ | ⟨_,y,_,_,e⟩
   ·rw [e]; exact Nat.le_succ_of_le ‹_›
   ·rw [e]; simp; trivial
 let P:Nat→Shared→Prop:=fun m s'=>∃ k g' vs mm,k≤items.length∧m=items.length - k∧Mid K ce (ρs k) (σs k) g₄ St wr acc (outs k) k s' g' vs mm
 refine zB7 P ?_ items.length ⟨0,g₄.set acc (some .tmp) _, #[],0,Nat.zero_le _,rfl,{
  le:=by
   have:((g₄.set acc (some .tmp) { cls:=.type "list",dict:=none,data:=.seq #[] 0,slots := #[] }).set acc none default)=((g₄.set acc none default)):=by
    unfold Gh.set; congr 1 <;> (funext b; by_cases e:b=acc <;> simp [e])
   rw [this]; exact Gh.le_unset ha4 (.refl _) _
  rep:=R₄.tagAs hacc ha4
  st:=hst
  wr0:=fun b hb=>by
   have e:b≠acc:=fun e=>hawr (e ▸ hb)
   rw [(g₄.set_ne _ _ e).1]; exact hw4 b hb
  at':=(g₄.set_self acc _ _).1
  co:=(g₄.set_self acc _ _).2
  ws:=by rw [h0]; exact .nil }⟩
 rintro m s' ⟨k,g',vs,mm,hk,rfl,D⟩
 have l4:g₄.le g':=Gh.le_of_unset ha4 D.le
 have l2:g₂.le g':=l24.trans l4
 by_cases hkN:k<items.length
 ·refine wpAny_mono (Wi.step (Q:=fun v s₂=>wpAny (KM K) A (PySem.assign target ce v) (fun _ s₂ =>
     wpAny (KM K) A (forIn ifs true fun c r=>if r=true then do let ok ← isTrue c ce (eval c ce); pure (ForInStep.yield ok) else pure (ForInStep.yield r)) (fun ok s₃ =>
      if ok=true then wpAny (KM K) A (eval elt ce) (fun x s₄ =>
       wpAny (KM K) A (PySem.call (.builtin "list.append") [.ref acc,x]) (fun _ s₅=>∃ m,m<items.length - k∧P m s₅) (notedBy (KM K) A ce fun e s'=>Rr (.error e) s') s₄) (notedBy (KM K) A ce fun e s'=>Rr (.error e) s') s₃
      else ∃ m,m<items.length - k∧P m s₃) (notedBy (KM K) A ce fun e s'=>Rr (.error e) s') s₂) (notedBy (KM K) A ce fun e s'=>Rr (.error e) s') s₂)
    (E:=notedBy (KM K) A ce fun e s'=>Rr (.error e) s') hkN D.st D.rep l2 D.wr0 fun g1 s1 u x hx hr l1 R1 hw1 hst1=>?_) (fun r s₁ hr=>?_) fun _ _ e=>e
  rotate_left 1
  ·cases r with
   | none=>exact hr.elim
   | some v=>exact hr
  (have zq:=hb k x hx; have hbind:=zq.1; have hbody:=zq.2)
  refine zk0 (R1.tagAll wr) fun g3 l3 R3 k1 k2 k3=>?_
  have htag : ∀ a∈wr,∀ o,s1.heap.get? a=some o→g3.tag a=some .tmp∧g3.con a=o:=fun a ha=>(k3 a ha (hw1 a ha)).1
  have l14:g₄.le g1:=l4.trans l1
  refine hbind F R3 (RW.mono l3.leB hr) fun s2 R5=>?_
  have fin : ∀ g5 s5,g3.le g5→Rep K g5 ce (ρs (k+1)) (σs (k+1)) s5→∃ g6,g₄.le g6∧g5.leB g6∧Rep K g6 ce (ρs (k+1)) (σs (k+1)) s5∧(∀ b∈wr,g6.tag b=none)∧g6.tag acc=some .tmp ∧
    g6.con acc = { cls:=.type "list",dict:=none,data:=.seq vs mm,slots := #[] }∧St (k+1) s5.heap:=by
   intro g5 s5 l5 R6
   have hst5:=Wi.turn hst1 R1 (l2.trans l1) htag l3 l5 R6
   have hat5:g5.tag acc=some .tmp∧g5.con acc=g'.con acc:=by
    (have zq:=l1.tmp acc D.at'; have q1:=zq.1; have q2:=zq.2)
    (have zq:=l3.tmp acc q1; have q3:=zq.1; have q4:=zq.2)
    (have zq:=l5.tmp acc q3; have q5:=zq.1; have q6:=zq.2)
    exact ⟨q5,(q6.trans q4).trans q2⟩
   obtain ⟨g6,q1,q2,q3,q4,q5⟩:=R₄.untagAll (hc (k+1)) wr R6 ((l14.trans l3).trans l5) fun a ha=>⟨hw4 a ha,by
    obtain ⟨o,ho⟩:=Wi.alive _ _ hst1 a ha
    exact .inl (l5.tmp a (htag a ha o ho).1).1⟩
   (have zq:=q5 acc hawr; have q6:=zq.1; have q7:=zq.2)
   exact ⟨g6,q1,q2,q3,q4,by rw [q6]; exact hat5.1,by rw [q7,hat5.2]; exact D.co,hst5⟩
  rcases hbody with ⟨ht,ho⟩ | ⟨σm,y,ht,he,ho⟩
  ·refine ht F R5 fun g5 s5 l5 R6=>?_
   simp only [Bool.false_eq_true,if_false]
   refine zp5 (fin g5 s5 l5 R6) fun g6 q1 q2 q3 q4 q5 q6 q7=>?_
   exact ⟨items.length - (k+1),by exact Nat.sub_succ_lt_self _ _ ‹_›,k+1,g6,vs,mm,hkN,rfl,⟨Gh.le_unset ha4 q1 _,q3,q7,q4,q5,q6,by
    rw [ho]; exact RWs.mono (fun a ha=>by
     (have zq:=l1.leB a ha; have z1:=zq.1; have z2:=zq.2)
     (have zq:=l3.leB a z1; have z3:=zq.1; have z4:=zq.2)
     (have zq:=l5.leB a z3; have z5:=zq.1; have z6:=zq.2)
     (have zq:=q2 a z5; have z7:=zq.1; have z8:=zq.2)
     exact ⟨z7,((z8.trans z6).trans z4).trans z2⟩) D.ws⟩⟩
  ·refine ht F R5 fun g5 s5 l5 R6=>?_
   simp only [if_true]
   refine he F R6 fun g7 s7 u' l7 R7 r7=>?_
   refine zp5 (fin g7 s7 (l5.trans l7) R7) fun g6 q1 q2 q3 q4 q5 q6 q7=>?_
   have hws6:RWs g6 (outs k) vs.toList:=RWs.mono (fun a ha=>by
     (have zq:=l1.leB a ha; have z1:=zq.1; have z2:=zq.2)
     (have zq:=l3.leB a z1; have z3:=zq.1; have z4:=zq.2)
     (have zq:=l5.leB a z3; have z5:=zq.1; have z6:=zq.2)
     (have zq:=l7.leB a z5; have z7:=zq.1; have z8:=zq.2)
     (have zq:=q2 a z7; have z9:=zq.1; have z10:=zq.2)
     exact ⟨z9,(((z10.trans z8).trans z6).trans z4).trans z2⟩) D.ws
   have hao:s7.heap.get? acc=some { cls:=.type "list",dict:=none,data:=.seq vs mm,slots := #[] }:=by rw [q3.fix acc (.inr q5),q6]
   have hlen:=hws6.length
   have hk2:=houts k hk
   have R8:=R₄.untag q3 ha4 (hc (k+1)) q5 default
   have l8:g₄.le (g6.set acc none default):=Gh.le_unset ha4 q1 _
   refine zs0 hao (by simp at hlen; lia) fun h9 m9 ho9 hs9=>?_
   have hnone:(g6.set acc none default).tag acc=none:=(g6.set_self acc none default).1
   have R9:=R8.off (wr:=[acc]) (tk:=s7.toks) (fun b hb=>by rw [List.mem_singleton.mp hb]; exact hnone) (h':=h9) fun b o hb hob=>hs9.extBut b o (fun e=>hb (by simp [e])) hob
   have lB6:g6.leB ((g6.set acc none default).set acc (some .tmp) { cls:=.type "list",dict:=none,data:=.seq (vs.push u') m9,slots := #[] }):=fun a ha=>by
    have e:a≠acc:=by rintro rfl; rw [q5] at ha; cases ha
    rw [(Gh.set_ne _ _ _ e).1,(Gh.set_ne _ _ _ e).2,(g6.set_ne _ _ e).1,(g6.set_ne _ _ e).2]; exact ⟨ha,rfl⟩
   refine ⟨items.length - (k+1),by lia,k+1,_,vs.push u',m9,hkN,rfl,{ le:=?_,rep:=R9.tagAs (t:=.tmp) ho9 hnone,st:=?_,wr0:=?_,at':=(Gh.set_self _ acc _ _).1,co:=(Gh.set_self _ acc _ _).2,ws:=?_ }⟩
   ·refine Gh.le_unset ha4 (l8.trans (Gh.le_set hnone)) _
   ·refine Wi.frame _ _ _ q7 fun b hb o hob=>hs9.extBut b o (fun e=>hafp (e ▸ hb)) hob
   ·intro b hb
    have e:b≠acc:=fun e=>hawr (e ▸ hb)
    rw [(Gh.set_ne _ _ _ e).1,(g6.set_ne _ _ e).1]; exact q4 b hb
   ·rw [ho,Array.toList_push]
    exact (RWs.mono lB6 hws6).snoc (RW.mono lB6 (RW.mono q2 r7))
 ·have hkN:k=items.length:=by lia
  subst hkN
  refine Wi.done D.st D.rep l2 D.wr0 fun s1 R1=>?_
  have R8:=R₄.untag R1 ha4 (hc _) D.at' default
  refine hR _ s1 vs mm D.le R8 (g'.set_self acc none default).1 (by rw [R1.fix acc (.inr D.at'),D.co]) (RWs.mono (fun a ha=>?_) D.ws)
  have e:a≠acc:=by rintro rfl; rw [D.at'] at ha; cases ha
  rw [(g'.set_ne _ _ e).1,(g'.set_ne _ _ e).2]; exact ⟨ha,rfl⟩
end
end Mine
namespace Mine
section
variable {K:Kc} {n:Nat} {env cenv ce:Env} {ρ ρ' ρ₁ ρ₂ ρ₀ ρc:Lo} {σ σ' σ₀ σ₁ σ₂ σ₃:List (Addr × O)} {g g₀ g₁ g₂ g₄:Gh} {s s₀ s' s₄:Shared} {A:Around} {items:List W}
noncomputable def Turns (K:Kc) (n:Nat) (sc:Scope) (target elt:Expr) (ifs:List Expr) (items:List W) (ρs:Nat→Lo) (σs:Nat→List (Addr × O)) (outs:Nat→List W):Prop :=
 ∀ ce:Env,ce.scope=sc→∀ k x,items[k]? = some x→Bind K n ce target x (ρs k) (ρs (k+1)) ∧
   ((TsC K n ce (ρs (k+1)) ifs (σs k) false (σs (k+1))∧outs (k+1)=outs k) ∨
    (∃ σm y,TsC K n ce (ρs (k+1)) ifs (σs k) true σm∧Ev K n ce (ρs (k+1)) elt σm (.w y) (σs (k+1))∧outs (k+1)=outs k++[y]))
theorem zU5 {E:Value→Shared→Prop} {Q:Value→Shared→Prop} {use:Option (Value→Sem Unit)} {elt target iter:Expr} {ifs:List Expr} {scope:Scope} {pos p:Pos} (F:Fit K n A) (R:Rep K g env ρ σ s)
  (ρs:Nat→Lo) (σs:Nat→List (Addr × O)) (outs:Nat→List W) (hi:ItN K n env ρ iter σ items (σs 0) target) (C:Caps K env ρ scope (ρs 0)) (hz:items.length≤sizeLine) (h0:outs 0=[]) (hc : ∀ k,(ρs k).c=(ρs 0).c)
  (hb:Turns K n (relabel scope env) target elt ifs items ρs σs outs) (hs : ∀ x,foldedSetIterable iter env x=pure x)
  (hQ : ∀ g' s' acc L vs m mm,g.le g'→Rep K g' env ρ (σs items.length) s'→g'.tag acc=none→s'.heap.get? acc=some { cls:=.type "list",dict:=none,data:=.seq vs m,slots := #[] }→RWs g' (outs items.length) vs.toList →
   g'.tag L=none→L≠acc→s'.heap.Ns L mm→compPost (KM K) A E use Q (.ref acc) L (.ok .next) s') :
  wpAny (KM K) A (comprehension (.ListComp elt [⟨target,iter,ifs,0⟩] scope pos) scope env p (newList []) false (eval iter env) use) Q E s:=by
 have hfree : ∀ x,(x,NameKind.free)∈scope.names→∃ c,env.cells.lookup x=some c:=fun x hx=>by
  obtain ⟨v,hv⟩:=C.all x hx
  refine zc7 (C.cell R hv) fun c u q1 _=>?_
  exact ⟨c,q1⟩
 refine zd4 (zx2 hfree) fun cl hclos hcl1 hcl2=>?_
 refine wpAny_comprehension_free rfl hs hclos C.kind C.names ?_
 refine hi F R fun g₂ s₂ I fp wr St l₂ R₂ Wi hst=>?_
 refine wpAny_newList ?_ (by simp)
 refine zL8 C.kind fun h₄ hk4 hn4 ok4=>?_
 generalize hacc:s₂.heap.objs.size=acc
 generalize hL:(Shared.heap { s₂ with heap:=s₂.heap.push { cls:=.type "list",data:=.seq ([]:List Value).toArray } }).objs.size=L at *
 have hL1:L=acc+1:=by rw [← hL, ← hacc,Heap.size_push]
 have hk2 : ∀ b o,s₂.heap.get? b=some o→h₄.get? b=some o:=fun b o e=>hk4 b o (Heap.get?_push_of_some _ e)
 have hao:h₄.get? acc=some { cls:=.type "list",dict:=none,data:=.seq #[] 0,slots := #[] }:=hk4 _ _ (by rw [← hacc]; exact Heap.get?_push_size _ rfl)
 let fr:Addr→Bool:=fun b=>decide (b=L)||(cellsFrom (L+1) scope.names []).any fun c=>decide (c.2=b)
 have hfr : ∀ b,fr b=true↔b=L∨∃ x,(x,b)∈cellsFrom (L+1) scope.names []:=fun b=>by
  simp only [fr,Bool.or_eq_true,decide_eq_true_eq,List.any_eq_true]
  constructor
  ·rintro (h | ⟨c,hc,rfl⟩)
   ·exact .inl h
   ·exact .inr ⟨c.1,hc⟩
  ·rintro (h | ⟨x,hx⟩)
   ·exact .inl h
   ·exact .inr ⟨(x,b),hx,rfl⟩
 have hge : ∀ b,fr b=true→acc+1≤b:=fun b hb=>by
  rcases (hfr b).mp hb with rfl | ⟨x,hx⟩
  ·exact Nat.le_of_eq hL1.symm
  ·exact Nat.le_trans (Nat.le_of_eq hL1.symm) (Nat.le_of_succ_le (ok4.empty x b hx).2)
 generalize hce:({ (newEnv scope L env.globals (cellsFrom (L+1) scope.names []++cl) env.qual none .none (some env) builtinsNs) with scope:=relabel scope env }:Env)=ce
 have e1:ce.scope=relabel scope env:=by rw [← hce]
 have e2:ce.locals=L:=by rw [← hce]; rfl
 have FR:FrameAt (g₂.swap s₂.heap fr) h₄ ce (ρs 0):=C.frame R₂ (by rw [hL1, ← hacc]; exact Nat.le_succ _) hcl1 hcl2 hk2 hn4 ok4 fr hfr e1 e2 (by rw [← hce]; rfl) (by rw [← hce]; rfl) (by rw [← hce]; exact R₂.fr.bui)
 have R₄:=R₂.swapFrame (tk:=s₂.toks) fr hk2 (fun b hb=>by
  rcases (hfr b).mp hb with rfl | ⟨x,hx⟩
  ·refine zd9 hn4 fun o _ _ e _=>?_; exact ⟨o,e⟩
  ·(have zq:=ok4.empty x b hx; have zq0:=zq.1; obtain ⟨o,e,_⟩:=zq0); exact ⟨o,e⟩) FR
 have l24:=g₂.swap_le s₂.heap fr
 have hacc2:g₂.tag acc=none:=by rw [← hacc]; exact R₂.fresh
 have hfrlt : ∀ b,b<acc→fr b=false:=fun b hb=>by
  cases e:fr b with
  | false=>rfl
  | true=>exact absurd (hge b e) (Nat.not_le.mpr (Nat.lt_succ_of_lt hb))
 have hwlt : ∀ b∈wr,b<acc:=fun b hb=>by
  obtain ⟨o,ho⟩:=Wi.alive _ _ hst b hb
  rw [← hacc]; exact Heap.lt_size ho
 have hw4 : ∀ b∈wr,(g₂.swap s₂.heap fr).tag b=none:=fun b hb=>by
  simp [Gh.swap,Wi.wr0 b hb,hfrlt b (hwlt b hb)]
 have ha4:(g₂.swap s₂.heap fr).tag acc=none:=by
  have:fr acc=false:=by
   cases e:fr acc with
   | false=>rfl
   | true=>exact absurd (hge acc e) (Nat.not_succ_le_self _)
  simp [Gh.swap,hacc2,this]
 have hafp:acc∉fp:=fun hm=>by
  by_cases hw:acc∈wr
  ·exact absurd (hwlt acc hw) (Nat.lt_irrefl _)
  ·rcases Wi.ro acc hm hw with q | q <;> (rw [hacc2] at q; cases q)
 have hst4:St 0 h₄:=Wi.frame _ _ _ hst fun b _ o ho=>hk2 b o ho
 have loop:codeAny (KM K) A (.compLoop (.ListComp elt [⟨target,iter,ifs,0⟩] scope pos) 0 (.ref I) (.ref acc) ce) (compPost (KM K) A E use Q (.ref acc) L) { s₂ with heap:=h₄ }:=by
  refine zU6 F Wi ρs σs outs h0 hz (hb ce e1) hc R₄ l24 hw4 ha4 hacc2 hafp hst4 hao fun g' s' vs m l R' hat ho hws=>?_
  (have zq:=R₂.backFrame l R'; have R6:=zq.1; have l6:=zq.2.1; have lB:=zq.2.2)
  refine obEA R'.fr.var fun mm hmm _=>?_
  have hLn:g₂.tag L=none:=by
   cases e:g₂.tag L with
   | none=>rfl
   | some t=>exact absurd (R₂.lt e) (by rw [hacc,hL1]; exact Nat.not_lt.mpr (Nat.le_succ _))
  refine hQ _ s' acc L vs m mm (l₂.trans l6) R6 ?_ ho (RWs.mono lB hws) ?_ (by rw [hL1]; exact Nat.succ_ne_self _) (by rw [← e2]; exact hmm)
  ·simp [Gh.back,hacc2,hat]
  ·have:g'.tag L=some .frame:=by rw [← e2]; exact R'.fr.lt
   simp [Gh.back,hLn,this]
 exact codeAny_compStart_list loop (Wi.self 0 _ _ _ hst4 loop)
end
end Mine
namespace Mine
section
variable {K:Kc} {n:Nat} {env cenv ce:Env} {ρ ρ' ρ₁ ρ₂ ρ₀ ρc:Lo} {σ σ' σ₀ σ₁ σ₂ σ₃:List (Addr × O)} {g g₀ g₁ g₂ g₄:Gh} {s s₀ s' s₄:Shared} {A:Around} {items:List W}
theorem Turns.len {sc:Scope} {target elt:Expr} {ifs:List Expr} {ρs:Nat→Lo} {σs:Nat→List (Addr × O)} {outs:Nat→List W} (ce:Env) (hce:ce.scope=sc) (h0:outs 0=[]) (T:Turns K n sc target elt ifs items ρs σs outs) :
  ∀ k,k≤items.length→(outs k).length≤k
 | 0,_=>by simp [h0]
 | k+1,hk=>by
  have ih:=T.len ce hce h0 k (by exact Nat.le_of_lt ‹_›)
  (have zq:=T ce hce k items[k] (List.getElem?_eq_getElem (by assumption)); have zq1:=zq.2; obtain h | ⟨σm,y,_,_,h⟩:=zq1)
  ·rw [h.2]; exact Nat.le_succ_of_le ‹_›
  ·rw [h]; simp; trivial
section
variable {elt target iter:Expr} {ifs:List Expr} {scope:Scope} {pos p spos:Pos}
theorem Ev.comp (ρs:Nat→Lo) (σs:Nat→List (Addr × O)) (outs:Nat→List W) (hi:ItN K n env ρ iter σ items (σs 0) target) (C:Caps K env ρ scope (ρs 0)) (hz:items.length≤sizeLine) (h0:outs 0=[]) (hc : ∀ k,(ρs k).c=(ρs 0).c)
  (hb:Turns K n (relabel scope env) target elt ifs items ρs σs outs) (hs : ∀ x,foldedSetIterable iter env x=pure x:=by intro _; rfl) :
  Ev K n env ρ (.ListComp elt [⟨target,iter,ifs,0⟩] scope pos) σ (.w (.list (outs items.length))) (σs items.length):=.mk fun A E s Q g F R h=>by
 rw [eval_ListComp]
 refine zU5 (use:=none) F R ρs σs outs hi C hz h0 hc hb hs fun g' s' acc L vs m mm l R' ha ho hw hL hLa hN=>?_
 refine ⟨mm,hN,fun h' hs'=>?_⟩
 have ho1:h'.get? acc=some _:=hs'.extBut _ _ (Ne.symm hLa) ho
 have R1:=R'.off (wr:=[L]) (h':=h') (tk:=s'.toks) (fun b hb=>by rw [List.mem_singleton.mp hb]; exact hL) fun b o hb hob=>hs'.extBut b o (fun e=>hb (by simp [e])) hob
 have R2:=R1.tagAs (t:=.base) ho1 ha
 have l2:g'.le _:=Gh.le_set (t:=some .base) (o:={ cls:=.type "list",dict:=none,data:=.seq vs m,slots := #[] }) ha
 have hl:=hb.len { env with scope:=relabel scope env } rfl h0 items.length (Nat.le_refl _)
 refine h _ _ _ (l.trans l2) R2 ?_
 simp only [RV,RW]
 exact ⟨acc,vs,rfl,(g'.set_self acc _ _).1,⟨m,by rw [(g'.set_self acc _ _).2]⟩,Nat.le_trans hl hz,RWs.mono l2.leB hw⟩
theorem Ex1.assignComp {x:Str} (ρs:Nat→Lo) (σs:Nat→List (Addr × O)) (outs:Nat→List W) (hi:ItN K n env ρ iter σ items (σs 0) target) (C:Caps K env ρ scope (ρs 0)) (hz:items.length≤sizeLine) (h0:outs 0=[]) (hc : ∀ k,(ρs k).c=(ρs 0).c)
  (hb:Turns K n (relabel scope env) target elt ifs items ρs σs outs) (hv:SetV ρ x (.w (.list (outs items.length))) ρ')
  (hsw:swapsWith (.ListComp elt [⟨target,iter,ifs,0⟩] scope pos) (some (.Name x p)) spos.line env=pure true) (hs : ∀ x,foldedSetIterable iter env x=pure x:=by intro _; rfl) :
  Ex1 K n env ρ σ (.Assign [.Name x p] (.ListComp elt [⟨target,iter,ifs,0⟩] scope pos) spos) .next ρ' (σs items.length):=.mk fun A E s Q g F R h=>by
 rw [exec_Assign_Name_used _ _ _ _ hsw]
 refine wpAny_bind (wpAny_standAt (wpAny_bind ?_))
 show wpAny _ A (do let _ ← comprehension (.ListComp elt [⟨target,iter,ifs,0⟩] scope pos) scope env _ (newList []) false (eval iter env) (some (PySem.assign (.Name x p) env))) _ _ s
 refine wpAny_bind (wpAny_mono (zU5 (use:=some (PySem.assign (.Name x p) env)) (Q:=fun _ s'=>Q .next s') F R ρs σs outs hi C hz h0 hc hb hs fun g' s' acc L vs m mm l R' ha ho hw hL hLa hN=>?_)
  (fun _ s' hq=>wpAny_pure (wpAny_pure hq)) fun _ _ e=>e)
 have hl:=hb.len { env with scope:=relabel scope env } rfl h0 items.length (Nat.le_refl _)
 have R2:=R'.tagAs (t:=.base) ho ha
 have l2:g'.le _:=Gh.le_set (t:=some .base) (o:={ cls:=.type "list",dict:=none,data:=.seq vs m,slots := #[] }) ha
 refine zd9 hN fun oL es ep hoL hrest=>?_
 have hL2:(g'.set acc (some .base) { cls:=.type "list",dict:=none,data:=.seq vs m,slots := #[] }).tag L=none:=by rw [(g'.set_ne _ _ hLa.symm.symm).1]; exact hL
 have R3:=R2.tagAs (t:=.tmp) hoL hL2
 have l3:=Gh.le_set (t:=some .tmp) (o:=oL) hL2
 have rw3:RV ((g'.set acc (some .base) { cls:=.type "list",dict:=none,data:=.seq vs m,slots := #[] }).set L (some .tmp) oL) (.w (.list (outs items.length))) (.ref acc):=by
  simp only [RV,RW]
  exact ⟨acc,vs,rfl,(l3.base acc (g'.set_self acc _ _).1).1,⟨m,by rw [(l3.base acc (g'.set_self acc _ _).1).2,(g'.set_self acc _ _).2]⟩,Nat.le_trans hl hz,RWs.mono (fun a q=>(l2.trans l3).leB a q) hw⟩
 show wpAny _ A (PySem.assign (.Name x p) env (.ref acc)) _ _ _
 refine wpAny_assign_Name (zb4 R3 hv rw3 fun s4 R4=>?_)
 have hL4:s4.heap.get? L=some oL:=by rw [R4.fix L (.inr (Gh.set_self _ _ _ _).1),(Gh.set_self _ _ _ _).2]
 refine ⟨mm,⟨oL,es,ep,hL4,hrest⟩,fun h' hs'=>?_⟩
 have R5:=R2.untag R4 hL2 hv.c (Gh.set_self _ _ _ _).1 default
 have R6:=R5.off (wr:=[L]) (h':=h') (tk:=s4.toks) (fun b hb=>by rw [List.mem_singleton.mp hb]; exact (Gh.set_self _ _ _ _).1) fun b o hb hob=>hs'.extBut b o (fun e=>hb (by simp [e])) hob
 exact h _ _ _ ((l.trans l2).trans (Gh.le_unset hL2 l3 _)) R6 rfl
noncomputable def zh9 (items:List W):Nat→Option V
 | 0=>none
 | k+1=>(items[k]?).map V.w
theorem Turns.one {sc:Scope} {x:Str} {px:Pos} {cs:List (Str × V)} {σs:Nat→List (Addr × O)} {outs:Nat→List W}
  (h : ∀ ce:Env,ce.scope=sc→∀ k y,items[k]? = some y→(TsC K n ce ⟨[(x,some (.w y))],cs⟩ ifs (σs k) false (σs (k+1))∧outs (k+1)=outs k) ∨
    (∃ σm z,TsC K n ce ⟨[(x,some (.w y))],cs⟩ ifs (σs k) true σm∧Ev K n ce ⟨[(x,some (.w y))],cs⟩ elt σm (.w z) (σs (k+1))∧outs (k+1)=outs k++[z])) :
  Turns K n sc (.Name x px) elt ifs items (fun k=>⟨[(x,zh9 items k)],cs⟩) σs outs:=fun ce hce k y hy=>by
 have e:zh9 items (k+1)=some (.w y):=by simp [zh9,hy]
 have hsv:SetV ⟨[(x,zh9 items k)],cs⟩ x (.w y) ⟨[(x,zh9 items (k+1))],cs⟩:=⟨by rw [e]; exact .head,rfl⟩
 refine ⟨(Bind.name hsv),?_⟩
 ·have h':=h ce hce k y hy
  rw [← e] at h'
  exact h'
theorem Turns.map {sc:Scope} {x:Str} {px:Pos} {cs:List (Str × V)} (f:W→Option W)
  (h : ∀ ce:Env,ce.scope=sc→∀ y∈items,(f y=none∧TsC K n ce ⟨[(x,some (.w y))],cs⟩ ifs σ false σ) ∨
    (∃ z,f y=some z∧TsC K n ce ⟨[(x,some (.w y))],cs⟩ ifs σ true σ∧Ev K n ce ⟨[(x,some (.w y))],cs⟩ elt σ (.w z) σ)) :
  Turns K n sc (.Name x px) elt ifs items (fun k=>⟨[(x,zh9 items k)],cs⟩) (fun _=>σ) (fun k=>(items.take k).filterMap f):=Turns.one fun ce hce k y hy=>by
 obtain ⟨hk,rfl⟩:=List.getElem?_eq_some_iff.mp hy
 have e:items.take (k+1)=items.take k++[items[k]]:=(List.take_append_getElem hk).symm
 rcases h ce hce items[k] (List.getElem_mem hk) with ⟨h1,h2⟩ | ⟨z,h1,h2,h3⟩
 ·exact .inl ⟨h2,by show List.filterMap f _=_; rw [e,List.filterMap_append]; simp [h1]⟩
 ·exact .inr ⟨σ,z,h2,h3,by show List.filterMap f _=_; rw [e,List.filterMap_append]; simp [h1]⟩
theorem Ev.compMap {x:Str} {px:Pos} {cs:List (Str × V)} (f:W→Option W) (hi:ItN K n env ρ iter σ items σ' (.Name x px)) (C:Caps K env ρ scope ⟨[(x,none)],cs⟩) (hz:items.length≤sizeLine)
  (h : ∀ ce:Env,ce.scope=relabel scope env→∀ y∈items,(f y=none∧TsC K n ce ⟨[(x,some (.w y))],cs⟩ ifs σ' false σ') ∨
    (∃ z,f y=some z∧TsC K n ce ⟨[(x,some (.w y))],cs⟩ ifs σ' true σ'∧Ev K n ce ⟨[(x,some (.w y))],cs⟩ elt σ' (.w z) σ'))
  (hs : ∀ x,foldedSetIterable iter env x=pure x:=by intro _; rfl) :
  Ev K n env ρ (.ListComp elt [⟨.Name x px,iter,ifs,0⟩] scope pos) σ (.w (.list (items.filterMap f))) σ':=by
 have e:(items.take items.length).filterMap f=items.filterMap f:=by simp
 rw [← e]
 exact Ev.comp (pos:=pos) (fun k=>⟨[(x,zh9 items k)],cs⟩) (fun _=>σ') (fun k=>(items.take k).filterMap f) hi C hz (by simp) (fun _=>rfl) (Turns.map f h) hs
theorem Ex1.assignMap {x y:Str} {px:Pos} {cs:List (Str × V)} (f:W→Option W) (hi:ItN K n env ρ iter σ items σ' (.Name x px)) (C:Caps K env ρ scope ⟨[(x,none)],cs⟩) (hz:items.length≤sizeLine)
  (h : ∀ ce:Env,ce.scope=relabel scope env→∀ y∈items,(f y=none∧TsC K n ce ⟨[(x,some (.w y))],cs⟩ ifs σ' false σ') ∨
    (∃ z,f y=some z∧TsC K n ce ⟨[(x,some (.w y))],cs⟩ ifs σ' true σ'∧Ev K n ce ⟨[(x,some (.w y))],cs⟩ elt σ' (.w z) σ'))
  (hv:SetV ρ y (.w (.list (items.filterMap f))) ρ')
  (hsw:swapsWith (.ListComp elt [⟨.Name x px,iter,ifs,0⟩] scope pos) (some (.Name y p)) spos.line env=pure true) (hs : ∀ x,foldedSetIterable iter env x=pure x:=by intro _; rfl) :
  Ex1 K n env ρ σ (.Assign [.Name y p] (.ListComp elt [⟨.Name x px,iter,ifs,0⟩] scope pos) spos) .next ρ' σ' :=
 Ex1.assignComp (fun k=>⟨[(x,zh9 items k)],cs⟩) (fun _=>σ') (fun k=>(items.take k).filterMap f) hi C hz (by simp) (fun _=>rfl) (Turns.map f h) (by simpa using hv) hsw hs
theorem Turns.steps {sc:Scope} {x:Str} {px:Pos} {cs:List (Str × V)} (ys:List W) (σs:Nat→List (Addr × O)) (hl:ys.length=items.length)
  (h : ∀ ce:Env,ce.scope=sc→∀ k y z,items[k]? = some y→ys[k]? = some z→Ev K n ce ⟨[(x,some (.w y))],cs⟩ elt (σs k) (.w z) (σs (k+1))) :
  Turns K n sc (.Name x px) elt [] items (fun k=>⟨[(x,zh9 items k)],cs⟩) σs (fun k=>ys.take k):=Turns.one fun ce hce k y hy=>by
 obtain ⟨hk,rfl⟩:=List.getElem?_eq_some_iff.mp hy
 have hk2:k<ys.length:=by lia
 exact .inr ⟨σs k,ys[k],TsC.nil,h ce hce k _ _ hy (List.getElem?_eq_getElem hk2),(List.take_append_getElem hk2).symm⟩
theorem Ev.compSteps {x:Str} {px:Pos} {cs:List (Str × V)} (ys:List W) (σs:Nat→List (Addr × O)) (hl:ys.length=items.length) (hi:ItN K n env ρ iter σ items (σs 0) (.Name x px)) (C:Caps K env ρ scope ⟨[(x,none)],cs⟩) (hz:items.length≤sizeLine)
  (h : ∀ ce:Env,ce.scope=relabel scope env→∀ k y z,items[k]? = some y→ys[k]? = some z→Ev K n ce ⟨[(x,some (.w y))],cs⟩ elt (σs k) (.w z) (σs (k+1)))
  (hs : ∀ x,foldedSetIterable iter env x=pure x:=by intro _; rfl) :
  Ev K n env ρ (.ListComp elt [⟨.Name x px,iter,[],0⟩] scope pos) σ (.w (.list ys)) (σs items.length):=by
 have e:ys.take items.length=ys:=List.take_of_length_le (by exact Nat.le_of_eq ‹_›)
 rw [← e]
 exact Ev.comp (pos:=pos) (fun k=>⟨[(x,zh9 items k)],cs⟩) σs (fun k=>ys.take k) hi C hz (by simp) (fun _=>rfl) (Turns.steps ys σs hl h) hs
theorem Ex1.assignSteps {x y:Str} {px:Pos} {cs:List (Str × V)} (ys:List W) (σs:Nat→List (Addr × O)) (hl:ys.length=items.length) (hi:ItN K n env ρ iter σ items (σs 0) (.Name x px)) (C:Caps K env ρ scope ⟨[(x,none)],cs⟩) (hz:items.length≤sizeLine)
  (h : ∀ ce:Env,ce.scope=relabel scope env→∀ k y z,items[k]? = some y→ys[k]? = some z→Ev K n ce ⟨[(x,some (.w y))],cs⟩ elt (σs k) (.w z) (σs (k+1)))
  (hv:SetV ρ y (.w (.list ys)) ρ')
  (hsw:swapsWith (.ListComp elt [⟨.Name x px,iter,[],0⟩] scope pos) (some (.Name y p)) spos.line env=pure true) (hs : ∀ x,foldedSetIterable iter env x=pure x:=by intro _; rfl) :
  Ex1 K n env ρ σ (.Assign [.Name y p] (.ListComp elt [⟨.Name x px,iter,[],0⟩] scope pos) spos) .next ρ' (σs items.length) :=
 Ex1.assignComp (fun k=>⟨[(x,zh9 items k)],cs⟩) σs (fun k=>ys.take k) hi C hz (by simp) (fun _=>rfl) (Turns.steps ys σs hl h) (by rw [List.take_of_length_le (by lia)]; exact hv) hsw hs
end
end
end Mine
namespace Mine
section
variable {K:Kc} {n:Nat} {env cenv ce:Env} {ρ ρ' ρ₁ ρ₂ ρ₀ ρc:Lo} {σ σ' σ₀ σ₁ σ₂ σ₃:List (Addr × O)} {g g₀ g₁ g₂ g₄:Gh} {s s₀ s' s₄:Shared} {A:Around} {items:List W}
theorem zw6:entryFor table "proto.unchain" = some Builtin.«proto.unchain» := entryFor_of_fast (by kernel_rfl)
theorem zW9 {α:Type} {E:Value→Shared→Prop} {Q:α→Shared→Prop} {A:Around} {s:Shared} {a:Addr} {o:Obj} {ws:Array Value} (hh:A.handled=none∨∃ e oe vs,A.handled=some (.ref e)∧e≠a∧s.heap.get? e=some oe∧oe.data = .fields vs∧vs[2]? = some .none)
  (ho:s.heap.get? a=some o) (hd:o.data = .fields ws) (hw:2<ws.size)
  (h : ∀ h' o',h'.get? a=some o'→o'.cls=o.cls→Heap.SameBut a s.heap h'→(A.handled=none→h'=s.heap)→E (.ref a) { s with heap:=h' }):wpAny (KM K) A (raiseNew (.ref a):Sem α) Q E s:=by
 rcases hh with hh | ⟨e,oe,vs,hh,hne,hoe,hde,hvs⟩
 ·exact wpAny_raiseNew_none hh (h s.heap o ho rfl ⟨rfl,fun _ _=>rfl⟩ fun _=>rfl)
 ·simp only [raiseNew]
  refine wpAny_bind (wpAny_handled ?_)
  rw [hh]
  have hne':((Value.ref e != Value.ref a)=true):=by
   rw [bne_iff_ne]; intro e'; injection e' with e'; exact hne e'
  dsimp only
  rw [if_pos hne']
  refine wpAny_bind (wpAny_holding (wpAny_runValue (codeAny_builtin zw6 ?_)))
  show wpAny _ _ (field (.ref e) 2 >>= _) _ _ s
  refine wpAny_bind (wpAny_field hoe hde hvs ?_)
  show wpAny _ _ (ret .none) _ _ s
  refine wpAny_pure ?_
  show wpAny _ _ (do updateField a 2 (.ref e); throw (.ref a)) _ _ s
  refine wpAny_bind ?_
  simp only [updateField]
  refine wpAny_bind (wpAny_load ho ?_)
  rw [hd]
  dsimp only
  rw [if_pos hw]
  obtain ⟨c,d,dt,sl⟩:=o
  simp only at hd; subst hd
  refine wpAny_update ho (wpAny_throw ?_)
  exact h _ _ (Heap.get?_update_self _ ho rfl) rfl (Heap.SameBut.update ..) fun e'=>by rw [hh] at e'; cases e'
noncomputable def zJ2 (A:Around) (h:Heap):Prop:=A.handled=none∨∃ e oe vs,A.handled=some (.ref e)∧h.get? e=some oe∧oe.data = .fields vs∧vs[2]? = some .none
theorem zv2 {α:Type} {E:Value→Shared→Prop} {Q:α→Shared→Prop} {A:Around} {s:Shared} (hf:zJ2 A s.heap)
  (h : ∀ h' a o,h'.get? a=some o→o.cls = .type "StopIteration" → a=s.heap.objs.size+1→(∀ b o,s.heap.get? b=some o→h'.get? b=some o)→E (.ref a) { s with heap:=h' }) :
  wpAny (KM K) A (do raiseNew (← newExc (.type "StopIteration") []):Sem α) Q E s:=by
 refine wpAny_bind ?_
 simp only [newExc,newTuple]
 refine wpAny_bind (wpAny_newObj_type ?_ (by size_fits))
 refine wpAny_bind (m:=firstArgMember _ _) (wpAny_of_eq (a:=Value.none) (by first | rfl | (simp only [firstArgMember]; rfl)) ?_)
 refine wpAny_newObj_type ?_ (by size_fits)
 have hz1:(s.heap.push { cls:=.type "tuple",data:=.seq ([]:List Value).toArray }).objs.size=s.heap.objs.size+1:=Heap.size_push ..
 have ho:=Heap.get?_push_size (s.heap.push { cls:=.type "tuple",data:=.seq ([]:List Value).toArray }) (o:={ cls:=.type "StopIteration",data:=.fields (#[Value.ref s.heap.objs.size,.none,.none,.none,.bool false,.none]++ownMembersOf (.type "StopIteration") []) }) rfl
 have keep : ∀ b o,s.heap.get? b=some o→((s.heap.push { cls:=.type "tuple",data:=.seq ([]:List Value).toArray }).push { cls:=.type "StopIteration",data:=.fields (#[Value.ref s.heap.objs.size,.none,.none,.none,.bool false,.none]++ownMembersOf (.type "StopIteration") []) }).get? b=some o :=
  fun b o e=>Heap.get?_push_of_some _ (Heap.get?_push_of_some _ e)
 have big : ∀ b o,s.heap.get? b=some o→b≠(s.heap.push { cls:=.type "tuple",data:=.seq ([]:List Value).toArray }).objs.size:=fun b o e=>by
  rw [hz1]; exact Nat.ne_of_lt (Nat.lt_succ_of_lt (Heap.lt_size e))
 refine zW9 (o:={ cls:=.type "StopIteration",data:=.fields (#[Value.ref s.heap.objs.size,.none,.none,.none,.bool false,.none]++ownMembersOf (.type "StopIteration") []) }) ?_ ho rfl (by simp; exact Nat.le_add_left _ _) fun h' o' ho' hc hs hn=>?_
 ·rcases hf with hf | ⟨e,oe,vs,h1,h2,h3,h4⟩
  ·exact .inl hf
  ·exact .inr ⟨e,oe,vs,h1,big e oe h2,keep e oe h2,h3,h4⟩
 ·exact h h' _ o' ho' hc hz1 (fun b o e=>hs.extBut b o (big b o e) (keep b o e))
theorem zt7 {E:Value→Shared→Prop} {A:Around} {s:Shared} {it l:Addr} {i:Nat} {items:Array Value} {Q:Option Value→Shared→Prop} (hf:zJ2 A s.heap) (hne : ∀ e,A.handled=some (.ref e)→e≠it)
  (hit:s.heap.IsListIter it l i) (hl:s.heap.IsList l items) (hx:items[i]? = none)
  (hQ : ∀ h',Heap.ExtBut it s.heap h'→Q none { s with heap:=h' }):wpAny (KM K) A (pyNext (.ref it)) Q E s:=by
 refine zd4 (id hit) fun o ho hc hd=>?_
 refine zz5 hl fun ol hol _ nl hdl=>?_
 unfold pyNext
 refine wpAny_bind (wpAny_attempt (wpAny_callSpecial?_slot (name:=Str.ofString "__next__") hit.typeIs slot_listiter_next
  (wpAny_call_entry slot_listiter_next hit.typeIs entry_listiter_next ?_ (args_listiter_next _))))
 show wpAny _ _ (field (.ref it) 0 >>= _) _ _ s
 refine wpAny_bind (wpAny_field ho hd (x:=.ref l) rfl ?_)
 show wpAny _ _ (if (Value.ref l==Value.none)=true then _ else _) _ _ s
 rw [if_neg (show ¬ ((Value.ref l==Value.none)=true) from Bool.false_ne_true)]
 show wpAny _ _ (field (.ref it) 1 >>= _) _ _ s
 refine wpAny_bind (wpAny_field ho hd (x:=.int i 0) rfl ?_)
 show wpAny _ _ (seqItems? (.ref l) >>= _) _ _ s
 refine wpAny_bind (wpAny_seqItems hol hdl ?_)
 simp only [Int.toNat_natCast,hx]
 refine wpAny_bind (wpAny_rule (wpAny_bind (wpAny_setField ho hd (by simp) ?_)))
 show wpAny _ _ (do raiseNew (← newExc (.type "StopIteration") [])) _ _ _
 refine zv2 (s:={ s with heap:=_ }) ?_ fun h' a o' ho' hc' _ hk=>?_
 ·rcases hf with hf | ⟨e,oe,vs,h1,h2,h3,h4⟩
  ·exact .inl hf
  ·exact .inr ⟨e,oe,vs,h1,(Heap.SameBut.update ..).extBut e oe (hne e h1) h2,h3,h4⟩
 ·refine wpAny_bind (wpAny_isInstance (T := "StopIteration") (b:=true) ⟨_,ho',hc'⟩ isSubtype_stop ?_)
  exact wpAny_pure (hQ _ fun b o hb e=>hk b o ((Heap.SameBut.update ..).extBut b o hb e))
theorem zD4 {E:Value→Shared→Prop} {A:Around} {s:Shared} {it:Addr} {x left step:Int} {Q:Option Value→Shared→Prop} (hf:zJ2 A s.heap) (hit:IsRangeIter s.heap it x left step) (hleft:left≤0)
  (hQ : ∀ h',Heap.ExtBut it s.heap h'→Q none { s with heap:=h' }):wpAny (KM K) A (pyNext (.ref it)) Q E s:=by
 have hT:s.TypeIs (.ref it) "range_iterator" := ⟨_,hit,rfl⟩
 unfold pyNext
 refine wpAny_bind (wpAny_attempt (wpAny_callSpecial?_slot (name:=Str.ofString "__next__") hT F.slot_range_iterator_next
  (wpAny_call_entry F.slot_range_iterator_next hT F.entry_range_iterator_next ?_ (F.args_range_iterator_next_1 _))))
 show wpAny _ _ (field (.ref it) 0 >>= _) _ _ s
 refine wpAny_bind (wpAny_field hit rfl (x:=rawInt x) rfl ?_)
 show wpAny _ _ (field (.ref it) 1 >>= _) _ _ s
 refine wpAny_bind (wpAny_field hit rfl (x:=rawInt left) rfl ?_)
 show wpAny _ _ (field (.ref it) 2 >>= _) _ _ s
 refine wpAny_bind (wpAny_field hit rfl (x:=rawInt step) rfl ?_)
 show wpAny _ _ (if left≤0 then _ else _) _ _ s
 rw [if_pos hleft]
 refine wpAny_bind (wpAny_rule ?_)
 refine wpAny_bind ?_
 show wpAny _ _ (do raiseNew (← newExc (.type "StopIteration") [])) _ _ _
 refine zv2 hf fun h' a o' ho' hc' _ hk=>?_
 refine wpAny_bind (wpAny_isInstance (T := "StopIteration") (b:=true) ⟨_,ho',hc'⟩ isSubtype_stop ?_)
 exact wpAny_pure (hQ _ fun b o _ e=>hk b o e)
theorem HdOk.freeA (R:Rep K g env ρ σ s) (hA:A.handled=K.hd):zJ2 A s.heap:=by
 rcases R.hd with h | ⟨e,vs,h1,h2,h3,h4⟩
 ·exact .inl (by rw [hA,h])
 ·exact .inr ⟨e,g.con e,vs,by rw [hA,h1],R.fix e (.inr h2),h3,h4⟩
theorem HdOk.neA (R:Rep K g env ρ σ s) (hA:A.handled=K.hd) {I:Addr} (hI:g.tag I=none) : ∀ e,A.handled=some (.ref e)→e≠I:=fun e he=>by
 rcases R.hd with h | ⟨e',vs,h1,h2,h3,h4⟩
 ·rw [hA,h] at he; cases he
 ·rw [hA,h1] at he; cases he
  rintro rfl; rw [hI] at h2; cases h2
theorem Wk.list {I l:Addr} {us:Array Value} {x:Str} {p:Pos} (hA:A.handled=K.hd) (ht:g₀.tag l=some .base) (hI:g₀.tag I=none) (hw:RWs g₀ items us.toList) :
  Wk K A I [I,l] [I] items g₀ (fun i h=>h.IsListIter I l i∧h.IsList l us) (.Name x p):=by
 have hne:l≠I:=by rintro rfl; rw [hI] at ht; cases ht
 have hlen:us.size=items.length:=by simpa using hw.length
 exact {
  sub:=fun b hb=>by simp at hb; simp [hb]
  wr0:=fun b hb=>by rw [List.mem_singleton.mp hb]; exact hI
  ro:=fun b hb hn=>by
   simp at hb hn
   rcases hb with rfl | rfl
   ·exact absurd rfl hn
   ·exact .inl ht
  alive:=fun i h st b hb=>by rw [List.mem_singleton.mp hb]; refine obEA st.1 fun o e _=>?_; exact ⟨o,e⟩
  frame:=fun _ _ _ st hk=>⟨st.1.at fun o e=>hk I (by simp) o e,st.2.at fun o e=>hk l (by simp) o e⟩
  step:=fun {i s Q E g env ρ σ} hi st R hle hw0 h=>by
   have hiu:i<us.size:=by lia
   refine wpAny_pyNext_list_item st.1 st.2 (x:=us[i]) (by simp [hiu]) fun h' hit' hs'=>?_
   refine wpAny_of_eq (a:=()) rfl ?_
   refine obEA (hw.get i (List.getElem?_eq_getElem hi)) fun v hv hr=>?_
   have e2:us[i]=v:=by
    rw [Array.getElem?_toList] at hv
    simpa [hiu] using hv
   refine h g _ us[i] _ (List.getElem?_eq_getElem hi) (by rw [e2]; exact RW.mono hle.leB hr) (.refl _) (R.off (tk:=s.toks) hw0 fun b o hb e=>hs'.extBut b o (fun h=>hb (by simp [h])) e) hw0 ⟨hit',st.2.extBut hs'.extBut hne⟩
  done:=fun {s Q E g env ρ σ} st R hle hw0 h=>by
   refine zt7 (HdOk.freeA R hA) (HdOk.neA R hA (hw0 I (by simp))) st.1 st.2 (by simp [hlen]) fun h' he'=>h _ (R.off (tk:=s.toks) hw0 fun b o hb e=>he' b o (fun h=>hb (by simp [h])) e)
  self:=fun _ _ _ _ st hQ=>wpAny_pyIter_listiter st.1 hQ }
noncomputable def za3 (a c:Int) (n:Nat):List W:=(List.range n).map fun (i:Nat)=>W.int (a+(i:Int)*c)
theorem Wk.range {I:Addr} {a c:Int} {m:Nat} {x:Str} {p:Pos} (hA:A.handled=K.hd) (hI:g₀.tag I=none) :
  Wk K A I [I] [I] (za3 a c m) g₀ (fun i h=>IsRangeIter h I (a+(i:Nat)*c) ((m:Int) - (i:Nat)) c) (.Name x p):=by
 have hlen:(za3 a c m).length=m:=by simp [za3]
 exact {
  sub:=fun b hb=>hb
  wr0:=fun b hb=>by rw [List.mem_singleton.mp hb]; exact hI
  ro:=fun b hb hn=>absurd hb hn
  alive:=fun i h st b hb=>by rw [List.mem_singleton.mp hb]; exact ⟨_,st⟩
  frame:=fun _ _ _ st hk=>hk I (by simp) _ st
  step:=fun {i s Q E g env ρ σ} hi st R hle hw0 h=>by
   rw [hlen] at hi
   refine wpAny_pyNext_range_item st (by lia) fun h' hit' hs'=>?_
   refine wpAny_of_eq (a:=()) rfl ?_
   have e1:a+((i+1:Nat):Int)*c=a+(i:Int)*c+c:=by push_cast; rw [Int.add_mul,Int.one_mul,Int.add_assoc]
   have e2:(m:Int) - ((i+1:Nat):Int)=(m:Int) - (i:Int) - 1:=by push_cast; lia
   refine h g _ _ (.int (a+i*c)) (by simp [za3,hi]) (by first | exact RW.intK | exact RV.intK) (.refl _) (R.off hw0 fun b o hb e=>hs'.extBut b o (fun h=>hb (by simp [h])) e) hw0 ?_
   rw [e1,e2]; exact hit'
  done:=fun {s Q E g env ρ σ} st R hle hw0 h=>by
   rw [hlen] at st
   refine zD4 (HdOk.freeA R hA) st (by simp) fun h' he'=>h _ (R.off (tk:=s.toks) hw0 fun b o hb e=>he' b o (fun h=>hb (by simp [h])) e)
  self:=fun _ _ _ _ st hQ=>wpAny_pyIter_rangeiter st hQ }
theorem ItN.list {e:Expr} {x:Str} {p:Pos} (h1:Ev K n env ρ e σ (.w (.list items)) σ'):ItN K n env ρ e σ items σ' (.Name x p):=.mk fun A E s Q g F R h =>
 h1 F R fun g1 s1 u l1 R1 r1=>by
  simp only [RV] at r1
  (refine zd6 (RW.list R1 r1) fun a vs m zq3=>?_; obtain ⟨rfl,ht,e1,z1,w1⟩:=zq3)
  refine wpAny_pyIter_list (isL e1) ?_
  have hI:=R1.fresh
  refine h g1 _ _ _ _ _ l1 (R1.push _) (Wk.list F.hand ht hI w1) ⟨⟨_,Heap.get?_push_size _ rfl,rfl,rfl⟩,(isL e1).push _⟩
theorem zG6 {E:Value→Shared→Prop} {Q:Value→Shared→Prop} {r:Addr} {a b c:Int} {t u v:Tok} {m:Nat} {x:Str} {p:Pos} (F:Fit K n A) (R:Rep K g env ρ σ s) (hr:IsRange s.heap r a b c t u v) (hsm:Builtin.Range.small a b c=true)
  (hm:Builtin.Range.rangeSize a b c=m) (h : ∀ g' s' I fp wr St,g.le g'→Rep K g' env ρ σ s'→Wk K A I fp wr (za3 a c m) g' St (.Name x p)→St 0 s'.heap→Q (.ref I) s') :
  wpAny (KM K) A (pyIter (.ref r)) Q E s:=by
 refine wpAny_pyIter_range hr hsm ?_
 refine h g _ _ _ _ _ (.refl _) (R.push _) (Wk.range F.hand R.fresh) ?_
 have:=Heap.get?_push_size s.heap (o:={ cls:=.type "range_iterator",data:=.fields #[rawInt a,rawInt (Builtin.Range.rangeSize a b c),rawInt c] }) rfl
 rw [hm] at this
 simpa [IsRangeIter,hm] using this
section
variable {x:Str} {p q pos:Pos} {e1 e2 e3:Expr} {a b c:Int}
theorem ItN.range1 (hk:env.kindOf ("range" : Str)=some .globalImplicit) (hx:K.mg ("range" : Str)=none) (hb:K.mb ("range" : Str)=some (.type "range")) (h1:Ev K n env ρ e1 σ (.w (.int b)) σ') (hl:0≤b∧b<2 ^ 62)
  (hp:(starEach [e1] env).any (·.1)=false:=by rfl) (hs:starEach [e1] env=[(false,eval e1 env)]:=by rfl) :
  ItN K n env ρ (.Call (.Name ("range" : Str) q) [e1] [] pos) σ (za3 0 1 b.toNat) σ' (.Name x p):=.mk fun A E s Q g F R h =>
 wpAny_Call_ofName (Ev.bui hk hx hb (by decide) F R fun _ _ _ l1 R1 r1=>by
  simp only [RV,RW] at r1; subst r1
  refine za6 (.type "range") (by rw [za5]; exact hp) ?_
  refine Evs.cons h1 Evs.nil hs F R1 fun g2 s2 us l2 R2 r2=>⟨R2.keeps,?_⟩
  simp only [RVs,RV,RW] at r2
  (refine zb2 r2 fun u r zq2 zq3 zq4=>?_; subst zq2; obtain ⟨t,rfl⟩:=zq3; subst zq4)
  refine call_range_1 ?_
  refine zG6 (a:=0) (b:=b) (c:=1) (t:=s2.toks) (u:=t) (v:=s2.toks+1) F ((R2.push _).toks _) (Heap.get?_push_size _ rfl) (small_one (by decide) (by decide) (by lia) hl.2) (by rw [rangeSize_one]; split <;> lia)
   fun g3 s3 I fp wr St l3 R3 W hst=>h g3 s3 I fp wr St ((l1.trans l2).trans l3) R3 W hst)
theorem ItN.range2 (hk:env.kindOf ("range" : Str)=some .globalImplicit) (hx:K.mg ("range" : Str)=none) (hb:K.mb ("range" : Str)=some (.type "range")) (h1:Ev K n env ρ e1 σ (.w (.int a)) σ₁) (h2:Ev K n env ρ e2 σ₁ (.w (.int b)) σ')
  (ha : -(2 ^ 62)≤a∧a<2 ^ 62) (hl : -(2 ^ 62)≤b∧b<2 ^ 62)
  (hp:(starEach [e1,e2] env).any (·.1)=false:=by rfl) (hs:starEach [e1,e2] env=[(false,eval e1 env),(false,eval e2 env)]:=by rfl) (hs2:starEach [e2] env=[(false,eval e2 env)]:=by rfl) :
  ItN K n env ρ (.Call (.Name ("range" : Str) q) [e1,e2] [] pos) σ (za3 a 1 (b - a).toNat) σ' (.Name x p):=.mk fun A E s Q g F R h =>
 wpAny_Call_ofName (Ev.bui hk hx hb (by decide) F R fun _ _ _ l1 R1 r1=>by
  simp only [RV,RW] at r1; subst r1
  refine za6 (.type "range") (by rw [za5]; exact hp) ?_
  refine Evs.cons h1 (Evs.cons h2 Evs.nil hs2) (by rw [hs,hs2]) F R1 fun g2 s2 us l2 R2 r2=>⟨R2.keeps,?_⟩
  simp only [RVs,RV,RW] at r2
  (refine zc0 r2 fun u r zq2 zq3 u' r' zq6 zq7 zq8=>?_; subst zq2; obtain ⟨t,rfl⟩:=zq3; subst zq6; obtain ⟨t',rfl⟩:=zq7; subst zq8)
  refine call_range_2 ?_
  refine zG6 (a:=a) (b:=b) (c:=1) (t:=t) (u:=t') (v:=s2.toks) F ((R2.push _).toks _) (Heap.get?_push_size _ rfl) (small_one ha.1 ha.2 hl.1 hl.2) (by rw [rangeSize_one]; split <;> omega)
   fun g3 s3 I fp wr St l3 R3 W hst=>h g3 s3 I fp wr St ((l1.trans l2).trans l3) R3 W hst)
end
end
end Mine
namespace Mine
section
variable {K:Kc} {n:Nat} {env cenv ce:Env} {ρ ρ' ρ₁ ρ₂ ρ₀ ρc:Lo} {σ σ' σ₀ σ₁ σ₂ σ₃:List (Addr × O)} {g g₀ g₁ g₂ g₄:Gh} {s s₀ s' s₄:Shared} {A:Around} {items:List W}
noncomputable def zl5 (xs:List W):List W:=(List.range xs.length).zipWith (fun (i:Nat) x=>W.tuple [.int (i:Int),x]) xs
theorem zg8 (xs:List W):(zl5 xs).length=xs.length:=by simp [zl5]
theorem zm6 {xs:List W} {i:Nat} {x:W} (h:xs[i]? = some x):(zl5 xs)[i]? = some (.tuple [.int i,x]):=by
 obtain ⟨hi,rfl⟩:=List.getElem?_eq_some_iff.mp h
 simp [zl5,List.getElem?_zipWith,hi]
theorem ItN.enumerate {xs:List W} {e1:Expr} {q p pos:Pos} {elts:List Expr} {k:Nat} (hd:K.hd=none) (hk:env.kindOf ("enumerate" : Str)=some .globalImplicit) (hx:K.mg ("enumerate" : Str)=none) (hb:K.mb ("enumerate" : Str)=some (.type "enumerate"))
  (h1:Ev K n env ρ e1 σ (.w (.list xs)) σ')
  (hp:(starEach [e1] env).any (·.1)=false:=by rfl) (hs:starEach [e1] env=[(false,eval e1 env)]:=by rfl) :
  ItN K n env ρ (.Call (.Name ("enumerate" : Str) q) [e1] [] pos) σ (zl5 xs) σ' (.Tuple elts k p):=.mk fun A E s Q g F R h =>
 wpAny_Call_ofName (Ev.bui hk hx hb (by decide) F R fun _ _ _ l1 R1 r1=>by
  simp only [RV,RW] at r1; subst r1
  refine za6 (.type "enumerate") (by rw [za5]; exact hp) ?_
  refine Evs.cons h1 Evs.nil hs F R1 fun g2 s2 us l2 R2 r2=>⟨R2.keeps,?_⟩
  simp only [RVs,RV] at r2
  obtain ⟨u,r,rfl,r2,rfl⟩:=r2
  obtain ⟨l,vs,m,rfl,ht,e1,z1,w1⟩:=RW.list R2 r2
  have hlt:l<s2.heap.objs.size:=R2.lt ht
  refine call_enumerate_list (isL e1) fun h' hE hit hz hkeep=>wpAny_pyIter_enum hE ?_
  have R3:Rep K g2 env ρ σ' { s2 with heap:=h' }:=R2.heap (tk:=s2.toks) fun b t o _ ho=>hkeep b o ho
  have n1:g2.tag s2.heap.objs.size=none:=R2.fresh
  have n2:g2.tag (s2.heap.objs.size+1)=none:=by
   cases e:g2.tag (s2.heap.objs.size+1) with
   | none=>rfl
   | some t=>exact absurd (R2.lt e) (Nat.not_lt.mpr (Nat.le_succ _))
  have hlen:vs.size=xs.length:=z1.2
  refine h g2 _ _ _ _ _ (l1.trans l2) R3 (Wk.of_walksT (WalksT.enumerate (by rw [F.hand,hd]) (s2.heap.objs.size+1) s2.heap.objs.size l (Nat.succ_ne_self _) (Nat.ne_of_lt (Nat.lt_succ_of_lt hlt)) (Nat.ne_of_lt hlt) vs) (by rw [zg8,hlen])
   (fun i hh st b hb=>?_) (fun b hb=>?_) (fun b hb hn=>?_) fun i vals hp=>?_) ⟨⟨_,hE⟩,hit,(isL e1).at (hkeep _)⟩
  ·simp at hb
   obtain ⟨⟨old,q1⟩,q2,q3⟩:=st
   rcases hb with rfl | rfl
   ·exact ⟨_,q1⟩
   ·obtain ⟨o,e,_⟩:=q2; exact ⟨o,e⟩
  ·simp at hb
   rcases hb with rfl | rfl
   ·exact n2
   ·exact n1
  ·simp at hb hn
   rcases hb with rfl | rfl | rfl
   ·exact absurd rfl hn.1
   ·exact absurd rfl hn.2
   ·exact .inl ht
  ·obtain ⟨t,x,hx,rfl⟩:=hp
   have hi:i<xs.length:=by
    have:i<vs.size:=by
     cases Nat.lt_or_ge i vs.size with
     | inl h=>exact h
     | inr h=>rw [Array.getElem?_eq_none h] at hx; cases hx
    lia
   obtain ⟨v,hv,hr⟩:=w1.get i (List.getElem?_eq_getElem hi)
   rw [Array.getElem?_toList,hx] at hv; cases hv
   refine ⟨[.int i,xs[i]],zm6 (List.getElem?_eq_getElem hi),by simp,fun g' hg=>?_⟩
   exact RWs.cons (by first | exact RW.intK | exact RV.intK) (RWs.cons (RW.mono hg hr) RWs.nil))
noncomputable def zc2 (xs ys:List W):List W:=List.zipWith (fun x y=>W.tuple [x,y]) xs ys
theorem ItN.zip {xs ys:List W} {e1 e2:Expr} {q p pos:Pos} {elts:List Expr} {k:Nat} (hd:K.hd=none) (hk:env.kindOf ("zip" : Str)=some .globalImplicit) (hx:K.mg ("zip" : Str)=none) (hb:K.mb ("zip" : Str)=some (.type "zip"))
  (h1:Ev K n env ρ e1 σ (.w (.list xs)) σ₁) (h2:Ev K n env ρ e2 σ₁ (.w (.list ys)) σ')
  (hp:(starEach [e1,e2] env).any (·.1)=false:=by rfl) (hs:starEach [e1,e2] env=[(false,eval e1 env),(false,eval e2 env)]:=by rfl) (hs2:starEach [e2] env=[(false,eval e2 env)]:=by rfl) :
  ItN K n env ρ (.Call (.Name ("zip" : Str) q) [e1,e2] [] pos) σ (zc2 xs ys) σ' (.Tuple elts k p):=.mk fun A E s Q g F R h =>
 wpAny_Call_ofName (Ev.bui hk hx hb (by decide) F R fun _ _ _ l1 R1 r1=>by
  simp only [RV,RW] at r1; subst r1
  refine za6 (.type "zip") (by rw [za5]; exact hp) ?_
  refine Evs.cons h1 (Evs.cons h2 Evs.nil hs2) (by rw [hs,hs2]) F R1 fun g2 s2 us l2 R2 r2=>⟨R2.keeps,?_⟩
  simp only [RVs,RV] at r2
  obtain ⟨u,r,rfl,r2,u',r',rfl,r2',rfl⟩:=r2
  obtain ⟨l,vs,m,rfl,ht,e1,z1,w1⟩:=RW.list R2 r2
  obtain ⟨l',vs',m',rfl,ht',e1',z1',w1'⟩:=RW.list R2 r2'
  have hlt:l<s2.heap.objs.size:=R2.lt ht
  have hlt':l'<s2.heap.objs.size:=R2.lt ht'
  refine call_zip_2 (isL e1) (isL e1') fun h' hZ hP1 hP2 hI1 hI2 hz hkeep=>wpAny_pyIter_zip hZ ?_
  have R3:Rep K g2 env ρ σ' { s2 with heap:=h' }:=R2.heap (tk:=s2.toks) fun b t o _ ho=>hkeep b o ho
  have big : ∀ k,g2.tag (s2.heap.objs.size+k)=none:=fun k=>by
   cases e:g2.tag (s2.heap.objs.size+k) with
   | none=>rfl
   | some t=>exact absurd (R2.lt e) (Nat.not_lt.mpr (Nat.le_add_right _ _))
  have R4:=R3.tagAs (t:=.tmp) (a:=s2.heap.objs.size+2) hP1 (big 2)
  have l4:=Gh.le_set (a:=s2.heap.objs.size+2) (t:=some .tmp) (o:={ cls:=.type "tuple",dict:=none,data:=.seq #[.ref s2.heap.objs.size,.ref (s2.heap.objs.size+1)] 0,slots := #[] }) (big 2)
  have hlen:vs.size=xs.length:=z1.2
  have hlen':vs'.size=ys.length:=z1'.2
  generalize hg4:g2.set (s2.heap.objs.size+2) (some .tmp) _=g4 at R4 l4
  have t4 : ∀ k,k≠2→g4.tag (s2.heap.objs.size+k)=none:=fun k hk=>by
   rw [← hg4,(Gh.set_ne _ _ _ (fun e=>hk (Nat.add_left_cancel e))).1]; exact big k
  have D:ZipApart (s2.heap.objs.size+4) (s2.heap.objs.size+2) (s2.heap.objs.size+3) s2.heap.objs.size (s2.heap.objs.size+1) l l':=by
   generalize s2.heap.objs.size=z at *
   have a1 : ∀ k,l≠z+k:=fun k=>Nat.ne_of_lt (Nat.lt_of_lt_of_le hlt (Nat.le_add_right _ _))
   have a2 : ∀ k,l'≠z+k:=fun k=>Nat.ne_of_lt (Nat.lt_of_lt_of_le hlt' (Nat.le_add_right _ _))
   have ne : ∀ j k:Nat,j≠k→z+j≠z+k:=fun j k h e=>h (Nat.add_left_cancel e)
   exact ⟨ne 2 4 (by decide),ne 3 4 (by decide),ne 0 4 (by decide),ne 1 4 (by decide),ne 2 3 (by decide),ne 2 0 (by decide),ne 2 1 (by decide),ne 3 0 (by decide),ne 3 1 (by decide),ne 0 1 (by decide),a1 4,a1 3,a1 0,a1 1,a2 4,a2 3,a2 0,a2 1⟩
  refine h g4 _ _ _ _ _ ((l1.trans l2).trans l4) R4 (Wk.of_walksT (WalksT.zip2 (by rw [F.hand,hd]) (s2.heap.objs.size+4) (s2.heap.objs.size+2) (s2.heap.objs.size+3) s2.heap.objs.size (s2.heap.objs.size+1) l l' D vs vs') (by simp [zc2,hlen,hlen'])
   (fun i hh st b hb=>?_) (fun b hb=>?_) (fun b hb hn=>?_) fun i vals hp=>?_) ⟨hZ,hP1,⟨_,_,hP2⟩,hI1,hI2,(isL e1).at (hkeep _),(isL e1').at (hkeep _)⟩
  ·simp at hb
   obtain ⟨q1,q2,⟨a,b',q3⟩,q4,q5,_⟩:=st
   rcases hb with rfl | rfl | rfl | rfl
   ·exact ⟨_,q1⟩
   ·exact ⟨_,q3⟩
   ·obtain ⟨o,e,_⟩:=q4; exact ⟨o,e⟩
   ·obtain ⟨o,e,_⟩:=q5; exact ⟨o,e⟩
  ·simp at hb
   rcases hb with rfl | rfl | rfl | rfl
   ·exact t4 4 (by decide)
   ·exact t4 3 (by decide)
   ·exact t4 0 (by decide)
   ·exact t4 1 (by decide)
  ·simp at hb hn
   rcases hb with rfl | rfl | rfl | rfl | rfl | rfl | rfl
   ·exact absurd rfl hn.1
   ·exact .inr (by rw [← hg4]; exact (Gh.set_self _ _ _ _).1)
   ·exact absurd rfl hn.2.1
   ·exact absurd rfl hn.2.2.1
   ·exact absurd rfl hn.2.2.2
   ·exact .inl (l4.base _ ht).1
   ·exact .inl (l4.base _ ht').1
  ·obtain ⟨x,y,hx,hy,rfl⟩:=hp
   have hi:i<xs.length:=by
    rw [← hlen]
    cases Nat.lt_or_ge i vs.size with
    | inl h=>exact h
    | inr h=>rw [Array.getElem?_eq_none h] at hx; cases hx
   have hi':i<ys.length:=by
    rw [← hlen']
    cases Nat.lt_or_ge i vs'.size with
    | inl h=>exact h
    | inr h=>rw [Array.getElem?_eq_none h] at hy; cases hy
   obtain ⟨v,hv,hr⟩:=w1.get i (List.getElem?_eq_getElem hi)
   rw [Array.getElem?_toList,hx] at hv; cases hv
   obtain ⟨v',hv',hr'⟩:=w1'.get i (List.getElem?_eq_getElem hi')
   rw [Array.getElem?_toList,hy] at hv'; cases hv'
   refine ⟨[xs[i],ys[i]],by simp [zc2,List.getElem?_zipWith,hi,hi'],by simp,fun g' hg=>?_⟩
   exact RWs.cons (RW.mono (fun a ha=>by
    obtain ⟨q1,q2⟩:=l4.leB a ha
    obtain ⟨q3,q4⟩:=hg a q1
    exact ⟨q3,q4.trans q2⟩) hr) (RWs.cons (RW.mono (fun a ha=>by
    obtain ⟨q1,q2⟩:=l4.leB a ha
    obtain ⟨q3,q4⟩:=hg a q1
    exact ⟨q3,q4.trans q2⟩) hr') RWs.nil))
theorem Ex1.forExit {j:Nat} {target iter:Expr} {body orelse:List Stmt} {pos} {o:Out} (ρs ρb:Nat→Lo) (σs:Nat→List (Addr × O)) (hi:ItN K n env (ρs 0) iter σ items (σs 0) target)
  (hc : ∀ k,(ρs k).c=(ρs 0).c)
  (hj:j<items.length) (hb : ∀ k x,k<j→items[k]? = some x→Bind K n env target x (ρs k) (ρb k) ∧
   (Ex K n env (ρb k) (σs k) body .next (ρs (k+1)) (σs (k+1))∨Ex K n env (ρb k) (σs k) body .cont (ρs (k+1)) (σs (k+1))))
  (hx : ∀ x,items[j]? = some x→Bind K n env target x (ρs j) (ρb j)∧((Ex K n env (ρb j) (σs j) body .brk ρ' σ'∧o = .next)∨(∃ v,Ex K n env (ρb j) (σs j) body (.ret v) ρ' σ'∧o = .ret v))) (hs : ∀ x,foldedSetIterable iter env x=pure x:=by intro _; rfl) :
  Ex1 K n env (ρs 0) σ (.For target iter body orelse pos) o ρ' σ':=.mk fun A E s Q g F R h=>by
 refine wpAny_For (hi F R fun g₀ s₀ I fp wr St l₀ R₀ W hst=>?_) hs
 refine codeAny_forLoop_any (fun m s'=>∃ k g',k≤j∧m=j - k∧g₀.le g'∧Rep K g' env (ρs k) (σs k) s'∧St k s'.heap∧∀ b∈wr,g'.tag b=none) ?_ j
  ⟨0,g₀,Nat.zero_le _,rfl,.refl _,R₀,hst,W.wr0⟩
 rintro m s' ⟨k,g',hk,rfl,hle,R',hst',hw⟩
 have l0:=hle
 have hkN:k<items.length:=by exact Nat.lt_of_le_of_lt ‹_› ‹_›
 ·refine wpAny_mono (W.step (Q:=fun v s₂=>wpAny (KM K) A (PySem.assign target env v) (fun _ s₂=>wpAny (model K.prog K.w) A (execs body env) (fun f s₃=>match f with
      | .next | .cont=>∃ m,m<j - k∧∃ k' g',k'≤j∧m=j - k'∧g₀.le g'∧Rep K g' env (ρs k') (σs k') s₃∧St k' s₃.heap∧∀ b∈wr,g'.tag b=none
      | .brk=>Q .next s₃
      | .ret v=>Q (.ret v) s₃) (notedBy (model K.prog K.w) A env fun e s'=>cameBackBy (KM K) A env E e s') s₂) (notedBy (model K.prog K.w) A env fun e s'=>cameBackBy (KM K) A env E e s') s₂)
    (E:=notedBy (model K.prog K.w) A env fun e s'=>cameBackBy (KM K) A env E e s') hkN hst' R' hle hw fun g1 s1 u x hxk hr l1 R1 hw1 hst1=>?_) (fun r s₁ hr=>?_) fun _ _ e=>e
  rotate_left 1
  ·cases r with
   | none=>exact hr.elim
   | some v=>exact hr
  obtain ⟨g2,l2,R2,k1,k2,k3⟩:=R1.tagAll wr
  have htag : ∀ a∈wr,∀ o,s1.heap.get? a=some o→g2.tag a=some .tmp∧g2.con a=o:=fun a ha=>(k3 a ha (hw1 a ha)).1
  by_cases hkj:k<j
  rotate_left 1
  ·have:k=j:=by lia
   subst this
   obtain ⟨hbind,hbody⟩:=hx x hxk
   refine hbind F R2 (RW.mono l2.leB hr) fun s2 R3=>?_
   rcases hbody with ⟨hbody,rfl⟩ | ⟨v,hbody,rfl⟩
   ·refine hbody F R3 fun g3 s3 f l3 R4 r4=>?_
    obtain rfl:=RF.brkE r4
    exact h g3 s3 .next ((((l₀.trans l0).trans l1).trans l2).trans l3) R4 rfl
   ·refine hbody F R3 fun g3 s3 f l3 R4 r4=>?_
    simp only [RF] at r4; obtain ⟨u,rfl,r4⟩:=r4
    exact h g3 s3 (.ret u) ((((l₀.trans l0).trans l1).trans l2).trans l3) R4 ⟨u,rfl,r4⟩
  obtain ⟨hbind,hbody⟩:=hb k x hkj hxk
  refine hbind F R2 (RW.mono l2.leB hr) fun s2 R3=>?_
  have fin : ∀ g3 s3,g2.le g3→Rep K g3 env (ρs (k+1)) (σs (k+1)) s3 →
    ∃ m,m<j - k∧∃ k' g',k'≤j∧m=j - k'∧g₀.le g'∧Rep K g' env (ρs k') (σs k') s3∧St k' s3.heap∧∀ b∈wr,g'.tag b=none:=by
   intro g3 s3 l3 R4
   have hst3:=W.turn hst1 R1 (l0.trans l1) htag l2 l3 R4
   obtain ⟨g4,q1,q2,q3,q4,_⟩:=R₀.untagAll (hc (k+1)) wr R4 (((l0.trans l1).trans l2).trans l3) fun a ha=>⟨W.wr0 a ha,by
    obtain ⟨o,ho⟩:=W.alive _ _ hst1 a ha
    exact .inl (l3.tmp a (htag a ha o ho).1).1⟩
   exact ⟨j - (k+1),by exact Nat.sub_succ_lt_self _ _ ‹_›,k+1,g4,hkj,rfl,q1,q3,hst3,q4⟩
  rcases hbody with hbody | hbody
  ·refine hbody F R3 fun g3 s3 f l3 R4 r4=>?_
   obtain rfl:=RF.nextE r4
   exact fin g3 s3 l3 R4
  ·refine hbody F R3 fun g3 s3 f l3 R4 r4=>?_
   obtain rfl:=RF.contE r4
   exact fin g3 s3 l3 R4
end
end Mine
namespace Mine
section
variable {K:Kc} {n:Nat} {env cenv ce:Env} {ρ ρ' ρ₁ ρ₂ ρ₃ ρ₀ ρc:Lo} {σ σ' σ₀ σ₁ σ₂ σ₃:List (Addr × O)} {g g₀ g₁ g₂ g₄:Gh} {s s₀ s' s₄:Shared} {A:Around} {items:List W}
theorem Rep.obTag (R:Rep K g env ρ σ s) {a:Addr} {o:O} (h:(a,o)∈σ):g.tag a=some (.obj a):=by
 have:=R.ob a o h
 cases o with
 | list xs=>exact this.1
 | iter xs=>exact this.1
 | lex f p l q=>obtain ⟨t,x⟩:=this; exact x.tags a (by simp)
 | citer l d=>exact this.1
 | codes cs=>exact this.1
theorem Rep.addO (R:Rep K g env ρ σ s) {a:Addr} {o:O} (h:ObjAt K g s.heap a o) (hn:a∉σ.map (·.1)):Rep K g env ρ ((a,o)::σ) s :=
 { R with
  ob:=fun b o' hb=>by
   rcases List.mem_cons.mp hb with e | hb
   ·cases e; exact h
   ·exact R.ob b o' hb
  nd:=List.nodup_cons.mpr ⟨hn,R.nd⟩ }
theorem Rep.notIn (R:Rep K g env ρ σ s) {a:Addr} (hn:g.tag a≠some (.obj a)):a∉σ.map (·.1):=fun hm=>by
 (refine obEA (List.mem_map.mp hm) fun zq0 hb zq2=>?_; obtain ⟨b,o⟩:=zq0; subst zq2)
 exact hn (R.obTag hb)
theorem Rep.newO (R:Rep K g env ρ σ s) {xs:List W} {us:List Value} (h:RWs g xs us) (hz:xs.length≤sizeLine) {h':Heap} {tk m:Nat} (hk : ∀ b o,s.heap.get? b=some o→h'.get? b=some o)
  (ho:h'.get? s.heap.objs.size=some { cls:=.type "list",dict:=none,data:=.seq us.toArray m,slots := #[] }) :
  ∃ g',g.le g'∧Rep K g' env ρ ((s.heap.objs.size,.list xs)::σ) { s with heap:=h',toks:=tk }:=by
 have R1:Rep K g env ρ σ { s with heap:=h',toks:=tk }:=R.heap fun b t o _ e=>hk b o e
 have R2:=R1.tagAs (t:=.obj s.heap.objs.size) ho R.fresh
 have l2:=Gh.le_set (t:=some (.obj s.heap.objs.size)) (o:={ cls:=.type "list",dict:=none,data:=.seq us.toArray m,slots := #[] }) R.fresh
 refine ⟨_,l2,R2.addO ⟨(Gh.set_self _ _ _ _).1,hz,_,_,ho,⟨m,rfl⟩,RWs.mono l2.leB (by simpa using h)⟩ (R.notIn (by rw [R.fresh]; simp))⟩
structure EvN (K:Kc) (n:Nat) (env:Env) (ρ:Lo) (e:Expr) (σ:List (Addr × O)) (o:O) (σ':List (Addr × O))  : Prop where
 go :   ∀ ⦃A:Around⦄ ⦃E:Value→Shared→Prop⦄ ⦃s:Shared⦄ ⦃Q:Value→Shared→Prop⦄ ⦃g:Gh⦄,Fit K n A→Rep K g env ρ σ s →
  (∀ g' s' a,g.le g'→Rep K g' env ρ ((a,o)::σ') s'→Q (.ref a) s')→wpAny (KM K) A (eval e env) Q E s
noncomputable instance {K:Kc} {n:Nat} {env:Env} {ρ:Lo} {e:Expr} {σ:List (Addr × O)} {o:O} {σ':List (Addr × O)}:CoeFun (EvN K n env ρ e σ o σ') (fun _ =>   ∀ ⦃A:Around⦄ ⦃E:Value→Shared→Prop⦄ ⦃s:Shared⦄ ⦃Q:Value→Shared→Prop⦄ ⦃g:Gh⦄,Fit K n A→Rep K g env ρ σ s →
  (∀ g' s' a,g.le g'→Rep K g' env ρ ((a,o)::σ') s'→Q (.ref a) s')→wpAny (KM K) A (eval e env) Q E s):=⟨fun h=>h.go⟩
theorem EvN.list {es:List Expr} {pos} {xs:List W} (h1:EvW K n env ρ es σ xs σ') (hz:xs.length≤sizeLine:=by decide):EvN K n env ρ (.List es pos) σ (.list xs) σ':=.mk fun _ _ _ _ _ F R h =>
 List_ (h1 F R fun g1 s1 us l1 R1 r1=>by
  have w:=r1.ws
  refine wpAny_newList ?_ (by rw [w.length]; exact hz)
  obtain ⟨g',l,R'⟩:=R1.newO (tk:=s1.toks) w hz (fun b o e=>Heap.get?_push_of_some _ e) (Heap.get?_push_size _ rfl)
  exact h _ _ _ (l1.trans l) R')
theorem Ex.assignN {x:Str} {e:Expr} {p pos} {o:O} {ss:List Stmt} {ou:Out} (h1:EvN K n env ρ e σ o σ₁) (ρ₁:Addr→Lo) (hv : ∀ a,SetV ρ x (.ref a) (ρ₁ a)) (h2 : ∀ a,Ex K n env (ρ₁ a) ((a,o)::σ₁) ss ou ρ' σ')
  (hs:swapsWith e (some (.Name x p)) pos.line env=pure false:=by rfl):Ex K n env ρ σ (.Assign [.Name x p] e pos::ss) ou ρ' σ':=.mk fun _ _ _ _ _ F R h =>
 wpAny_execs_cons (wpAny_Assign_Name (h1 F R fun g1 s1 a l1 R1=>zb4 R1 (hv a) (by exact rfl) fun s2 R2=>h2 a F R2 fun g3 s3 f l3 R3 r3=>h _ _ _ (l1.trans l3) R3 r3) hs)
structure Less (ρ ρ':Lo):Prop where
 nd:(ρ.v.map (·.1)).Nodup→(ρ'.v.map (·.1)).Nodup
 v : ∀ x ov,(x,ov)∈ρ'.v→(x,ov)∈ρ.v∨(ov=none∧∃ o,(x,o)∈ρ.v)
 c : ∀ x v,(x,v)∈ρ'.c→(x,v)∈ρ.c
theorem Rep.less (R:Rep K g env ρ σ s) (hρ:Less ρ ρ') (hσ:σ'.Sublist σ):Rep K g env ρ' σ' s :=
 { R with
  fr:={ R.fr with
   nd:=hρ.nd R.fr.nd
   var:=by
    refine obEA R.fr.var fun m hn hv=>?_
    refine ⟨m,hn,fun x ov hx=>?_⟩
    rcases hρ.v x ov hx with h | ⟨rfl,o,h⟩
    ·exact hv x ov h
    ·rcases hv x o h with ⟨h1,_⟩ | ⟨h1,c,u,h2,h3,h4,_⟩
     ·exact .inl ⟨h1,trivial⟩
     ·exact .inr ⟨h1,c,u,h2,h3,h4,trivial⟩
   cap:=fun x v hx=>R.fr.cap x v (hρ.c x v hx) }
  ob:=fun a o h=>R.ob a o (hσ.subset h)
  nd:=(hσ.map _).nodup R.nd }
theorem Ex.less {ss:List Stmt} {o:Out} (h1:Ex K n env ρ σ ss o ρ₁ σ₁) (hρ:Less ρ₁ ρ') (hσ:σ'.Sublist σ₁):Ex K n env ρ σ ss o ρ' σ':=.mk fun _ _ _ _ _ F R h =>
 h1 F R fun g1 s1 f l1 R1 r1=>h _ _ _ l1 (R1.less hρ hσ) r1
noncomputable def hush (ρ:Lo):Lo:=⟨ρ.v.map fun p=>(p.1,none),[]⟩
theorem Less.hush (ρ:Lo):Less ρ (hush ρ):=⟨fun h=>by simpa [Mine.hush,Function.comp_def] using h,fun x ov h=>by
  (refine obEA (List.mem_map.mp h) fun zq0 h1 h2=>?_; obtain ⟨y,o⟩:=zq0)
  cases h2; exact .inr ⟨rfl,o,h1⟩,fun x v h=>(nomatch h)⟩
theorem Less.refl (ρ:Lo):Less ρ ρ:=⟨id,fun _ _ h=>.inl h,fun _ _ h=>h⟩
theorem Rep.freeze (R:Rep K g env ρ σ s) {a:Addr} {xs:List W} {S1 S2:List (Addr × O)} (hσ:σ=S1++(a,.list xs)::S2) :
  ∃ g',g.le g'∧RW g' (.list xs) (.ref a)∧Rep K g' env ρ (S1++S2) s:=by
 (refine zf2 (R.ob a (.list xs) (by rw [hσ]; simp)) fun ht hz ob vs ho zq5 hw=>?_; obtain ⟨m,hm⟩:=zq5)
 have nb : ∀ b t,g.tag b=some t→t ≠ .obj a→b≠a:=fun b t hb hn e=>by subst e; rw [ht] at hb; cases hb; exact hn rfl
 have hle:g.le (g.set a (some .base) ob):=⟨fun b hb=>by
   have e:=nb b _ hb (by simp)
   rw [(g.set_ne _ _ e).1,(g.set_ne _ _ e).2]; exact ⟨hb,rfl⟩,fun b hb=>by
   have e:=nb b _ hb (by simp)
   rw [(g.set_ne _ _ e).1,(g.set_ne _ _ e).2]; exact ⟨hb,rfl⟩⟩
 refine ⟨g.set a (some .base) ob,hle,by simp only [RW]; exact ⟨a,vs,rfl,(g.set_self _ _ _).1,⟨m,by rw [(g.set_self _ _ _).2,hm]⟩,hz,RWs.mono hle.leB hw⟩,?_⟩
 have nd:=R.nd
 rw [hσ,List.map_append,List.map_cons] at nd
 have nd':=List.nodup_append.mp nd
 refine ⟨R.G,R.hd.mono hle.tmp,R.sh,fun b t hb=>?_,fun b hb=>?_,fun b o hb=>?_,?_,fun b o m=>?_,?_⟩
 ·by_cases e:b=a
  ·subst e; exact ⟨_,ho⟩
  ·rw [(g.set_ne _ _ e).1] at hb; exact R.live b t hb
 ·by_cases e:b=a
  ·subst e; rw [(g.set_self _ _ _).2]; exact ho
  ·rw [(g.set_ne _ _ e).1] at hb; rw [(g.set_ne _ _ e).2]; exact R.fix b hb
 ·have e:=nb b _ (R.gnd b o hb).1 (by simp)
  rw [(g.set_ne _ _ e).1,(g.set_ne _ _ e).2]; exact R.gnd b o hb
 ·exact R.fr.move hle.leB (fun b hb=>⟨by rw [(g.set_ne _ _ (nb b _ hb (by simp))).1]; exact hb,rfl⟩) (fun b hb=>⟨by rw [(g.set_ne _ _ (nb b _ hb (by simp))).1]; exact hb,rfl⟩)
 ·have hba:b≠a:=by
   rcases List.mem_append.mp m with m | m
   ·rintro rfl
    have q:b∈S1.map Prod.fst:=List.mem_map_of_mem (f:=Prod.fst) m
    exact nd'.2.2 _ q _ List.mem_cons_self rfl
   ·rintro rfl
    have q:b∈S2.map Prod.fst:=List.mem_map_of_mem (f:=Prod.fst) m
    exact (List.nodup_cons.mp nd'.2.1).1 q
  have hm':(b,o)∈σ:=by
   rw [hσ]
   rcases List.mem_append.mp m with m | m
   ·exact List.mem_append_left _ m
   ·exact List.mem_append_right _ (List.mem_cons_of_mem _ m)
  exact (R.ob b o hm').move hle.leB fun c hc=>⟨by rw [(g.set_ne _ _ (nb c _ hc (by intro e; cases e; exact hba rfl))).1]; exact hc,rfl⟩
 ·have:(S1++S2).Sublist (S1++(a,O.list xs)::S2):=List.Sublist.append_left (List.sublist_cons_self _ _) _
  have q:=(this.map Prod.fst).nodup (hσ ▸ R.nd)
  exact q
theorem FrameAt.retell {h:Heap} {x:Str} {v v':V} (F:FrameAt g h env ρ) (hx:(x,some v)∈ρ.v) (hv:SetV ρ x v' ρ') (hr : ∀ u,RV g v u→RV g v' u):FrameAt g h env ρ':=by
 refine zd9 hv.l.split fun V1 o V2 e1 e2=>?_
 have hnd:=F.nd
 have hmem:(x,o)∈ρ.v:=by rw [e1]; simp
 have uniq : ∀ (l:List (Str × Option V)) y o1 o2,(l.map (·.1)).Nodup→(y,o1)∈l→(y,o2)∈l→o1=o2:=by
  intro l
  induction l with
  | nil=>intro y o1 o2 _ h; cases h
  | cons p l ih =>
   intro y o1 o2 hn h1 h2
   (have zq:=List.nodup_cons.mp hn; have n1:=zq.1; have n2:=zq.2)
   rcases List.mem_cons.mp h1 with h1 | h1 <;> rcases List.mem_cons.mp h2 with h2 | h2
   ·rw [← h1] at h2; cases h2; rfl
   ·exact absurd (List.mem_map_of_mem (f:=Prod.fst) h2) (by rw [← h1] at n1; exact n1)
   ·exact absurd (List.mem_map_of_mem (f:=Prod.fst) h1) (by rw [← h2] at n1; exact n1)
   ·exact ih y o1 o2 n2 h1 h2
 have ho:o=some v:=uniq _ x _ _ hnd hmem hx
 subst ho
 have other : ∀ y ov,(y,ov)∈ρ'.v→(y=x∧ov=some v')∨(y,ov)∈ρ.v:=by
  intro y ov hy
  rw [e2] at hy
  rw [e1]
  rcases List.mem_append.mp hy with h1 | h1
  ·exact .inr (List.mem_append_left _ h1)
  ·rcases List.mem_cons.mp h1 with h1 | h1
   ·cases h1; exact .inl ⟨rfl,rfl⟩
   ·exact .inr (List.mem_append_right _ (List.mem_cons_of_mem _ h1))
 exact { F with
  nd:=by
   have:ρ'.v.map (·.1)=ρ.v.map (·.1):=by rw [e1,e2]; simp
   rw [this]; exact hnd
  var:=by
   refine obEA F.var fun m hn hvar=>?_
   refine ⟨m,hn,fun y ov hy=>?_⟩
   rcases other y ov hy with ⟨rfl,rfl⟩ | hy
   ·rcases hvar y _ hmem with ⟨h1,h2⟩ | ⟨h1,c,u,h2,h3,h4,h5⟩
    ·refine .inl ⟨h1,?_⟩
     cases hm:m y with
     | none=>rw [hm] at h2; exact h2.elim
     | some u=>rw [hm] at h2; exact hr u h2
    ·refine .inr ⟨h1,c,u,h2,h3,h4,?_⟩
     cases u with
     | none=>exact h5.elim
     | some u=>exact hr u h5
   ·exact hvar y ov hy
  cap:=fun y v hy=>by rw [hv.c] at hy; exact F.cap y v hy }
inductive DelO:List (Addr × O)→Addr→O→List (Addr × O)→Prop
 | head {a o B}:DelO ((a,o)::B) a o B
 | tail {p B a o B'}:DelO B a o B'→DelO (p::B) a o (p::B')
theorem DelO.split {l:List (Addr × O)} {a o l'} (h:DelO l a o l') : ∃ A B,l=A++(a,o)::B∧l'=A++B:=by
 induction h with
 | head=>exact ⟨[],_,rfl,rfl⟩
 | tail h ih=>refine zc7 ih fun A B e1 e2=>?_; exact ⟨_::A,B,by rw [e1]; rfl,by rw [e2]; rfl⟩
theorem Ex.freeze {x:Str} {a:Addr} {xs:List W} {ss:List Stmt} {o:Out} (hx:(x,some (.ref a))∈ρ.v) (hd:DelO σ a (.list xs) σ₁) (hv:SetV ρ x (.w (.list xs)) ρ₁) (h1:Ex K n env ρ₁ σ₁ ss o ρ' σ') :
  Ex K n env ρ σ ss o ρ' σ':=.mk fun _ _ _ _ _ F R h=>by
 refine zc7 hd.split fun S1 S2 e1 e2=>?_
 refine zd4 (R.freeze e1) fun g' l hw R'=>?_
 subst e2
 exact h1 F { R' with fr:=R'.fr.retell hx hv fun u hu=>by obtain rfl:=RV.refE hu; exact hw } fun g2 s2 f l2 R2 r2=>h _ _ _ (l.trans l2) R2 r2
theorem Ex1.expr {e:Expr} {pos} {v:V} (h1:Ev K n env ρ e σ v σ') (hs:swapsWith e none pos.line env=pure false:=by rfl):Ex1 K n env ρ σ (.Expr e pos) .next ρ σ':=.mk fun _ _ _ _ _ F R h =>
 wpAny_Expr_any (h1 F R fun _ _ _ l1 R1 r1=>h _ _ _ l1 R1 rfl) (by unfold interactive; rw [R.fr.kind]; rfl) hs
theorem Ev.idxR {v i:Expr} {pos} {a:Addr} {xs:List W} {k:Int} {x:W} (h1:Ev K n env ρ v σ (.ref a) σ₁) (h2:Ev K n env ρ i σ₁ (.w (.int k)) σ₂) (hm:(a,O.list xs)∈σ₂) (h0:0≤k) (hx:xs[k.toNat]? = some x) :
  Ev K n env ρ (.Subscript v i pos) σ (.w x) σ₂:=.mk fun _ _ _ _ _ F R h =>
 zs9 list_getitem_lookup (h1 F R fun _ _ _ l1 R1 r1=>h2 F R1 fun g2 s2 _ l2 R2 r2=>by
  obtain rfl:=RV.refE r1
  (refine zf2 (R2.ob a _ hm) fun ht hz ob vs ho zq5 hw=>?_; obtain ⟨m,rfl⟩:=zq5)
  simp only [RV,RW] at r2; obtain ⟨t,rfl⟩:=r2
  rw [sizeLine_eq] at hz
  refine ⟨(isL ho).typeIs,?_⟩
  refine obEA (zw1 hw hx) fun v e2 r=>?_
  have hlt:k.toNat<xs.length:=(List.getElem?_eq_some_iff.mp hx).1
  exact wpAny_getItem_list (isL ho) h0 (by lia) e2 (h _ _ _ (l1.trans l2) R2 r))
theorem RWs.set : ∀ {xs us} {k:Nat} {x u},RWs g xs us→RW g x u→RWs g (xs.set k x) (us.set k u)
 | [],us,k,x,u,h,hx=>by simp only [RWs] at h; subst h; simpa using RWs.nil
 | y::ys,us,0,x,u,h,hx=>by
  simp only [RWs] at h
  (refine zb2 h fun v r zq2 h1 h2=>?_; subst zq2)
  exact RWs.cons hx h2
 | y::ys,us,k+1,x,u,h,hx=>by
  simp only [RWs] at h
  (refine zb2 h fun v r zq2 h1 h2=>?_; subst zq2)
  exact RWs.cons h1 (RWs.set h2 hx)
theorem zJ7 {E:Value→Shared→Prop} {l:Addr} {vs:Array Value} {m:Nat} {k:Int} {t:Tok} {v:Value} {Q:Unit→Shared→Prop} (ho:s.heap.get? l=some { cls:=.type "list",dict:=none,data:=.seq vs m,slots := #[] })
  (h0:0≤k) (hfit:k<2 ^ 63) (hn:k<vs.size)
  (hQ : ∀ h' m',h'.get? l=some { cls:=.type "list",dict:=none,data:=.seq (vs.setIfInBounds k.toNat v) m',slots := #[] }→Heap.SameBut l s.heap h'→Q () { s with heap:=h' }) :
  wpAny (KM K) A (PySem.setItem (.ref l) (.int k t) v) Q E s:=by
 have hl:=isL ho
 unfold PySem.setItem
 try with_reducible refine wpAny_holding ?_
 first | refine wpAny_bind (wpAny_pure ?_) | skip
 refine wpAny_bind (wpAny_sequenceKey hl.typeIs (by decide) ?_)
 refine wpAny_bind (wpAny_callSpecial?_slot (name:=Str.ofString "__setitem__") hl.typeIs slot_list_setitem
  (wpAny_call_entry slot_list_setitem hl.typeIs entry_list_setitem ?_ (args_list_setitem _ _ _)))
 show wpAny _ _ (Builtin.List.listSubscript? (.int k t) >>= _) _ _ s
 refine wpAny_bind (wpAny_listSubscript_int (fitsIndex_of h0 hfit) ?_)
 clear hfit
 obtain ⟨j,rfl⟩:=Int.eq_ofNat_of_zero_le h0
 have hj:j<vs.size:=by lia
 have hx':vs[j]? = some vs[j]:=Array.getElem?_eq_getElem hj
 show wpAny _ _ ((seqItemAt l j >>= fun r=>pure (r.map (j, ·))) >>= _) _ _ s
 refine wpAny_bind (wpAny_bind (wpAny_seqItemAt ho rfl (wpAny_pure ?_)))
 rw [hx']
 show wpAny _ _ (setSeqItemAt l j v >>= _) _ _ s
 have hfin:=Heap.get?_update_self (Obj.mapSeq (·.setIfInBounds j v)) ho rfl
 refine wpAny_bind (wpAny_setSeqItemAt ho rfl ?_)
 first
  | exact wpAny_bind (wpAny_pure (wpAny_pure ⟨.none,rfl,wpAny_pure (hQ _ _ hfin (Heap.SameBut.update ..))⟩))
  | exact wpAny_pure ⟨.none,rfl,wpAny_pure (hQ _ _ hfin (Heap.SameBut.update ..))⟩
theorem Ex1.setItem {v i e:Expr} {p pos} {a:Addr} {xs:List W} {k:Int} {x:W} (h0:Ev K n env ρ e σ (.w x) σ₁) (h1:Ev K n env ρ v σ₁ (.ref a) σ₂) (h2:Ev K n env ρ i σ₂ (.w (.int k)) σ₃) (hk:0≤k∧k.toNat<xs.length)
  (hs:SetO σ₃ a (.list xs) (.list (xs.set k.toNat x)) σ') (hsw:swapsWith e (some (.Subscript v i p)) pos.line env=pure false:=by rfl) :
  Ex1 K n env ρ σ (.Assign [.Subscript v i p] e pos) .next ρ σ':=.mk fun A E s Q g F R h =>
 wpAny_Assign_Subscript (h0 F R fun g0 s0 u0 l0 R0 r0=>h1 F R0 fun g1 s1 u1 l1 R1 r1=>h2 F R1 fun g2 s2 u2 l2 R2 r2=>by
  obtain rfl:=RV.refE r1
  simp only [RV,RW] at r2; obtain ⟨t,rfl⟩:=r2
  refine zc7 hs.split fun S1 S2 e1 e2=>?_
  (refine zf2 (R2.ob a (.list xs) (by rw [e1]; simp)) fun ht hz ob vs ho zq5 hw=>?_; obtain ⟨m,rfl⟩:=zq5)
  have hlen:vs.size=xs.length:=by simpa using hw.length
  have hz':=hz
  rw [sizeLine_eq] at hz'
  refine zJ7 ho hk.1 (by lia) (by lia) fun h' m' ho' hs'=>?_
  refine h g2 _ _ ((l0.trans l1).trans l2) (e2 ▸ R2.obWrite (tk:=s2.toks) ht e1 (fun b hb=>hs'.2 b fun e=>by subst e; exact hb ht) (fun b hb=>?_) ?_) rfl
  ·by_cases e:b=a
   ·subst e; exact ⟨_,ho'⟩
   ·obtain ⟨o,ho2⟩:=R2.live b _ hb
    exact ⟨o,(hs'.2 b e).trans ho2⟩
  ·refine ⟨ht,by simpa using hz,_,_,ho',⟨_,rfl⟩,?_⟩
   have:=RWs.set (k:=k.toNat) hw (RW.mono (l1.trans l2).leB r0)
   simpa using this) hsw
end
end Mine
namespace Mine
section
variable {K:Kc} {n:Nat} {env cenv ce:Env} {ρ ρ' ρ₁ ρ₂ ρ₃ ρ₀ ρc:Lo} {σ σ' σ₀ σ₁ σ₂ σ₃:List (Addr × O)} {g g₀ g₁ g₂ g₄:Gh} {s s₀ s' s₄:Shared} {A:Around} {items:List W}
theorem Fn.lower {p q:List Nat} (hq:Txt.lower ⟨p.toArray⟩=⟨q.toArray⟩) (hf:q.length≤sizeLine):Fn K n (.builtin "str.lower") [.w (.str p)] σ (.w (.str q)) σ:=.mk fun A E s Q g env ρ us F R hu h=>by
 simp only [RVs,RV,RW] at hu
 (refine zb2 hu fun u r zq2 zq3 zq4=>?_; subst zq2; obtain ⟨hz,t,rfl⟩:=zq3; subst zq4)
 refine SC.lower ?_ (h _ _ _ (.refl _) (R.toks _) ?_)
 ·rw [hq]; unfold Builtin.Str.tooLong; simpa [Str.length] using hf
 ·rw [hq]; simp only [RV,RW]; exact ⟨hf,_,rfl⟩
theorem Fn.hex {i:Int} {q:List Nat} (hq:baseText "0x" 16 i=⟨q.toArray⟩) (hf:q.length≤sizeLine):Fn K n (.builtin "hex") [.w (.int i)] σ (.w (.str q)) σ:=.mk fun A E s Q g env ρ us F R hu h=>by
 simp only [RVs,RV,RW] at hu
 (refine zb2 hu fun u r zq2 zq3 zq4=>?_; subst zq2; obtain ⟨t,rfl⟩:=zq3; subst zq4)
 refine P.hex_of_int (h _ _ _ (.refl _) (R.toks _) ?_) ?_
 ·rw [hq]; simp only [RV,RW]; exact ⟨hf,_,rfl⟩
 ·rw [hq]; simpa [Str.length] using hf
noncomputable def zb7 (sep:List Nat):List (List Nat)→List Nat
 | []=>[]
 | [p]=>p
 | p::q::r=>p++sep++zb7 sep (q::r)
theorem zw5 (sep:List Nat) : ∀ l:List (List Nat),Str.join ⟨sep.toArray⟩ (l.map fun p=>(⟨p.toArray⟩:Str))=⟨(zb7 sep l).toArray⟩
 | []=>rfl
 | [p]=>rfl
 | p::q::r=>by
  have ih:=zw5 sep (q::r)
  show (⟨p.toArray⟩:Str)++⟨sep.toArray⟩++Str.join _ ((q::r).map _)=_
  rw [ih,zi2,zi2]
  simp [zb7]
theorem Fn.join {sep:List Nat} {l:List (List Nat)} (hok:(l.map (·.length)).sum+l.length*sep.length≤16777216):Fn K n (.builtin "str.join") [.w (.str sep),.w (.list (l.map W.str))] σ (.w (.str (zb7 sep l))) σ:=.mk fun A E s Q g env ρ us F R hu h=>by
 simp only [RVs,RV] at hu
 (refine zc0 hu fun u r zq2 h1 u' r' zq6 h2 zq8=>?_; subst zq2; subst zq6; subst zq8)
 simp only [RW] at h1
 (refine obAE h1 fun hz t zq2=>?_; subst zq2)
 (refine zd6 (RW.list R h2) fun a vs m zq3=>?_; obtain ⟨rfl,_,e1,z1,w1⟩:=zq3)
 refine join_list (isL e1) (RWs.map_str w1) (by simpa [Str.length,Function.comp_def] using hok) fun t' k=>h _ _ _ (.refl _) (R.toks _) ?_
 have e2:Txt.join ⟨sep.toArray⟩ (l.map fun p=>(⟨p.toArray⟩:Str))=⟨(zb7 sep l).toArray⟩:=by
  show Builtin.Str.glued _ _=_
  rw [StrLaws.glued_eq_join,zw5]
 rw [e2]
 simp only [RV,RW]
 refine ⟨?_,_,rfl⟩
 have:=StrLaws.join_length_le ⟨sep.toArray⟩ (l.map fun p=>(⟨p.toArray⟩:Str))
 rw [zw5] at this
 simp [Str.length,Function.comp_def] at this
 rw [sizeLine_eq]; exact Nat.le_trans ‹_› ‹_›
theorem RWs.strsFrom : ∀ (tk:Nat) (l:List (List Nat)),(∀ p∈l,p.length≤sizeLine)→RWs g (l.map W.str) (strsFrom tk (l.map fun p=>(⟨p.toArray⟩:Str)))
 | _,[],_=>RWs.nil
 | tk,p::l,h=>RWs.cons (by simp only [RW]; exact ⟨h p (mm 0 rfl),_,rfl⟩) (RWs.strsFrom (tk+1) l fun q hq=>h q (List.mem_cons_of_mem _ hq))
theorem RWs.ints : ∀ {vs:List Value} {ns:List Int},IntsAre vs ns→RWs g (ns.map W.int) vs
 | _,_,.nil=>RWs.nil
 | _,_,.cons i t h=>RWs.cons (by first | exact RW.intK | exact RV.intK) (RWs.ints h)
theorem Fn.count {ns:List Int} {k:Int}:Fn K n (.builtin "list.count") [.w (.list (ns.map W.int)),.w (.int k)] σ (.w (.int (ns.count k:Nat))) σ:=.mk fun A E s Q g env ρ us F R hu h=>by
 simp only [RVs,RV] at hu
 (refine zc0 hu fun u r zq2 h1 u' r' zq6 h2 zq8=>?_; subst zq2; subst zq6; subst zq8)
 simp only [RW] at h2
 obtain ⟨t,rfl⟩:=h2
 (refine zd6 (RW.list R h1) fun a vs m zq3=>?_; obtain ⟨rfl,_,e1,z1,w1⟩:=zq3)
 exact count_list_ints (vs:=vs.toList) (isL e1) (RWs.map_int w1) (h _ _ _ (.refl _) (R.toks _) (by first | exact RW.intK | exact RV.intK))
theorem RWs.range {acc:Array Value} {a c:Int} {m:Nat} (h:ItemsOf (fun (i:Nat) v=>∃ t,v=Value.int (a+(i:Int)*c) t) acc m):RWs g (za3 a c m) acc.toList:=by
 have key : ∀ (k:Nat) (us:List Value),us.length=k→(∀ (j:Nat) v,us[j]? = some v→∃ t,v=Value.int (a+(j:Int)*c) t)→RWs g (za3 a c k) us:=by
  intro k
  induction k with
  | zero=>intro us hl _; rw [List.length_eq_zero_iff.mp hl]; exact RWs.nil
  | succ k ih =>
   intro us hl hv
   have hne:us≠[]:=by rintro rfl; simp at hl
   have e1:za3 a c (k+1)=za3 a c k++[W.int (a+(k:Int)*c)]:=by simp [za3,List.range_succ]
   rw [e1, ← List.dropLast_concat_getLast hne]
   have hlast:us.getLast hne=us[k]'(by lia):=by
    rw [List.getLast_eq_getElem]; congr 1; lia
   refine RWs.snoc (ih _ (by simp [hl]) fun j v hj=>hv j v ?_) ?_
   ·rw [List.getElem?_dropLast] at hj
    split at hj
    ·exact hj
    ·cases hj
   ·obtain ⟨t,ht⟩:=hv k (us.getLast hne) (by rw [hlast]; exact List.getElem?_eq_getElem (by lia))
    rw [ht]; simp only [RW]; exact ⟨t,rfl⟩
 exact key m acc.toList (by simpa using h.1) fun j v hj=>h.2 j v (by simpa using hj)
theorem zO7 {E:Value→Shared→Prop} {Q:Value→Shared→Prop} {r:Addr} {a b c:Int} {t u v:Tok} {m:Nat} (hd:K.hd=none) (F:Fit K n A) (R:Rep K g env ρ σ s) (hr:IsRange s.heap r a b c t u v) (hsm:Builtin.Range.small a b c=true)
  (hm:Builtin.Range.rangeSize a b c=m) (hz:m≤16777216)
  (h : ∀ h' tk (us:List Value) k,(∀ b o,s.heap.get? b=some o→h'.get? b=some o)→h'.get? s.heap.objs.size=some { cls:=.type "list",dict:=none,data:=.seq us.toArray k,slots := #[] }→RWs g (za3 a c m) us →
   Q (.ref s.heap.objs.size) { s with heap:=h',toks:=tk }):wpAny (KM K) A (PySem.call (.type "list") [.ref r]) Q E s:=by
 refine call_list_range (by rw [F.hand,hd]) hr hsm hm (by assumption) fun h' tk acc' c' hk ho hacc=>?_
 exact h h' tk acc'.toList c' hk (by simpa using ho) (RWs.range hacc)
theorem zA1 {q q2 pos pos2:Pos} {es:List Expr} {vs:List V} {a b c:Int} {m:Nat} (hd:K.hd=none)
  (hk:env.kindOf ("range" : Str)=some .globalImplicit) (hx:K.mg ("range" : Str)=none) (hb:K.mb ("range" : Str)=some (.type "range"))
  (hkl:env.kindOf ("list" : Str)=some .globalImplicit) (hxl:K.mg ("list" : Str)=none) (hbl:K.mb ("list" : Str)=some (.type "list"))
  (h1:Evs K n env ρ es σ vs σ') (hv:(vs=[.w (.int b)]∧a=0∧c=1)∨(vs=[.w (.int a),.w (.int b)]∧c=1)∨(vs=[.w (.int a),.w (.int b),.w (.int c)]∧c≠0∧Builtin.divisionGoesByPylong (b - a) c=false))
  (hsm:Builtin.Range.small a b c=true) (hm:Builtin.Range.rangeSize a b c=m) (hz:m≤16777216)
  (hp:(starEach es env).any (·.1)=false) {E:Value→Shared→Prop} {Q:Value→Shared→Prop} (F:Fit K n A) (R:Rep K g env ρ σ s)
  (h : ∀ g' s' h' tk (us:List Value) k,g.le g'→Rep K g' env ρ σ' s'→(∀ b o,s'.heap.get? b=some o→h'.get? b=some o)→h'.get? s'.heap.objs.size=some { cls:=.type "list",dict:=none,data:=.seq us.toArray k,slots := #[] }→RWs g' (za3 a c m) us →
   Q (.ref s'.heap.objs.size) { s' with heap:=h',toks:=tk })
  (hs:starEach [Expr.Call (.Name ("range" : Str) q) es [] pos] env=(false,eval (Expr.Call (.Name ("range" : Str) q) es [] pos) env)::starEach [] env:=by rfl) :
  wpAny (KM K) A (eval (.Call (.Name ("list" : Str) q2) [.Call (.Name ("range" : Str) q) es [] pos] [] pos2) env) Q E s:=by
 refine wpAny_Call_ofName (Ev.bui hkl hxl hbl (by decide) F R fun g0 s0 u0 l0 R0 r0=>?_)
 simp only [RV,RW] at r0; subst r0
 refine za6 (.type "list") (by rw [za5,hs]; rfl) ?_
 refine spliced_more ?_ hs
 refine wpAny_Call_ofName (Ev.bui hk hx hb (by decide) F R0 fun g1 s1 u1 l1 R1 r1=>?_)
 simp only [RV,RW] at r1; subst r1
 refine za6 (.type "range") (by rw [za5]; exact hp) ?_
 refine h1 F R1 fun g2 s2 us l2 R2 r2=>⟨R2.keeps,?_⟩
 have fin : ∀ (s3:Shared) r t u v,Rep K g2 env ρ σ' s3→IsRange s3.heap r a b c t u v→wpAny (KM K) A (spliced (backTo pos2 (starEach [] env))) (fun vs s'=>(∀ b o,K.s₀.heap.get? b=some o→s'.heap.get? b=some o)∧wpAny (KM K) A (PySem.call (.type "list") ([]++(.ref r::vs))) Q E s') E s3:=fun s3 r t u v R3 hr=>by
  refine spliced_none ⟨R3.keeps,?_⟩
  exact zO7 hd F R3 hr hsm hm hz fun h' tk us k hk ho hw=>h g2 s3 h' tk us k ((l0.trans l1).trans l2) R3 hk ho hw
 rcases hv with ⟨rfl,rfl,rfl⟩ | ⟨rfl,rfl⟩ | ⟨rfl,hc,hpl⟩
 ·simp only [RVs,RV,RW] at r2
  (refine zb2 r2 fun u r zq2 zq3 zq4=>?_; subst zq2; obtain ⟨t,rfl⟩:=zq3; subst zq4)
  exact call_range_1 (fin _ _ _ _ _ ((R2.push _).toks _) (Heap.get?_push_size _ rfl))
 ·simp only [RVs,RV,RW] at r2
  (refine zc0 r2 fun u r zq2 zq3 u' r' zq6 zq7 zq8=>?_; subst zq2; obtain ⟨t,rfl⟩:=zq3; subst zq6; obtain ⟨t',rfl⟩:=zq7; subst zq8)
  exact call_range_2 (fin _ _ _ _ _ ((R2.push _).toks _) (Heap.get?_push_size _ rfl))
 ·simp only [RVs,RV,RW] at r2
  (refine zj4 r2 fun u r zq2 zq3 u' r' zq6 zq7 u'' r'' zq10 zq11 zq12=>?_; subst zq2; obtain ⟨t,rfl⟩:=zq3; subst zq6; obtain ⟨t',rfl⟩:=zq7; subst zq10; obtain ⟨t'',rfl⟩:=zq11; subst zq12)
  exact call_range_3 hc (fin _ _ _ _ _ ((R2.push _).toks _) (Heap.get?_push_size _ rfl)) (.inl hpl)
section
variable {q q2 pos pos2:Pos} {es:List Expr} {vs:List V} {a b c:Int} {m:Nat}
theorem za1 (a c:Int) (m:Nat):(za3 a c m).length=m:=by simp [za3]
theorem EvN.listRange (hd:K.hd=none)
  (hk:env.kindOf ("range" : Str)=some .globalImplicit) (hx:K.mg ("range" : Str)=none) (hb:K.mb ("range" : Str)=some (.type "range"))
  (hkl:env.kindOf ("list" : Str)=some .globalImplicit) (hxl:K.mg ("list" : Str)=none) (hbl:K.mb ("list" : Str)=some (.type "list"))
  (h1:Evs K n env ρ es σ vs σ') (hv:(vs=[.w (.int b)]∧a=0∧c=1)∨(vs=[.w (.int a),.w (.int b)]∧c=1)∨(vs=[.w (.int a),.w (.int b),.w (.int c)]∧c≠0∧Builtin.divisionGoesByPylong (b - a) c=false))
  (hsm:Builtin.Range.small a b c=true) (hm:Builtin.Range.rangeSize a b c=m) (hz:m≤16777216) (hp:(starEach es env).any (·.1)=false:=by rfl) :
  EvN K n env ρ (.Call (.Name ("list" : Str) q2) [.Call (.Name ("range" : Str) q) es [] pos] [] pos2) σ (.list (za3 a c m)) σ':=.mk fun A E s Q g F R h =>
 zA1 hd hk hx hb hkl hxl hbl h1 hv hsm hm hz hp F R fun g' s' h' tk us k l R' hkp ho hw=>by
  refine obEA (R'.newO (tk:=tk) hw (by rw [za1,sizeLine_eq]; lia) hkp ho) fun g'' l2 R2=>?_
  exact h _ _ _ (l.trans l2) R2
end
noncomputable def zf1 (p q:List Nat):List (List Nat):=(Txt.split ⟨p.toArray⟩ ⟨q.toArray⟩).map (·.cps.toList)
theorem Fn.split {p q:List Nat} (hy:q≠[]) (hok : ∀ x∈zf1 p q,x.length≤sizeLine) (hz:(zf1 p q).length≤sizeLine):Fn K n (.builtin "str.split") [.w (.str p),.w (.str q)] σ (.w (.list ((zf1 p q).map W.str))) σ:=.mk fun A E s Q g env ρ us F R hu h=>by
 simp only [RVs,RV,RW] at hu
 (refine zc0 hu fun u r zq2 zq3 u' r' zq6 zq7 zq8=>?_; subst zq2; obtain ⟨hz1,t,rfl⟩:=zq3; subst zq6; obtain ⟨hz2,t',rfl⟩:=zq7; subst zq8)
 have hy':((⟨q.toArray⟩:Str).length==0)=false:=by
  cases q with
  | nil=>exact absurd rfl hy
  | cons a q=>simp [Str.length]
 have hx':(⟨p.toArray⟩:Str).length≤sizeLine:=by simpa [Str.length] using hz1
 have one:Txt.split ⟨p.toArray⟩ ⟨q.toArray⟩=[⟨p.toArray⟩]→Q (.ref s.heap.objs.size) { s with heap:=s.heap.push { cls:=.type "list",data:=.seq [Value.str ⟨p.toArray⟩ t].toArray } }:=fun e=>by
  have e2:zf1 p q=[p]:=by simp [zf1,e]
  rw [e2] at h
  refine zd4 (R.newL (xs:=[W.str p]) (us:=[Value.str ⟨p.toArray⟩ t]) (RWs.cons (by simp only [RW]; exact ⟨hz1,_,rfl⟩) RWs.nil) (by rw [sizeLine_eq]; simp)) fun g' l hw R'=>?_
  exact h _ _ _ l R' hw
 cases h1:(decide ((⟨p.toArray⟩:Str).length<(⟨q.toArray⟩:Str).length)||decide (Builtin.Str.strKind ⟨p.toArray⟩<Builtin.Str.strKind ⟨q.toArray⟩))
 ·cases hf:(Builtin.Str.occurrences ⟨p.toArray⟩ ⟨q.toArray⟩ 0 (⟨p.toArray⟩:Str).length ((⟨p.toArray⟩:Str).length+1)).isEmpty
  ·have e:Txt.split ⟨p.toArray⟩ ⟨q.toArray⟩=Builtin.Str.partsBetween ⟨p.toArray⟩ (Builtin.Str.occurrences ⟨p.toArray⟩ ⟨q.toArray⟩ 0 (⟨p.toArray⟩:Str).length ((⟨p.toArray⟩:Str).length+1)) (⟨q.toArray⟩:Str).length:=by
    unfold Txt.split; rw [h1,hf]; rfl
   have hlen:(zf1 p q).length=(Builtin.Str.partsBetween ⟨p.toArray⟩ (Builtin.Str.occurrences ⟨p.toArray⟩ ⟨q.toArray⟩ 0 (⟨p.toArray⟩:Str).length ((⟨p.toArray⟩:Str).length+1)) (⟨q.toArray⟩:Str).length).length:=by
    unfold zf1; rw [e]; simp
   refine call_meets PySem.F.slot_str_split (typeIs_str _ _ _) PySem.F.entry_str_split (PySem.F.args_str_split_2 _ _) (meets_str_split_sep _ _ _ _ h1 hy' hf hx' (by rw [← hlen]; exact hz)) ?_
   rw [← e]
   have ew:((zf1 p q).map fun p=>(⟨p.toArray⟩:Str))=Txt.split ⟨p.toArray⟩ ⟨q.toArray⟩:=by
    unfold zf1; simp [Function.comp_def]
   refine zd4 ((R.toks (s.toks+(Txt.split ⟨p.toArray⟩ ⟨q.toArray⟩).length)).newL (RWs.strsFrom s.toks (zf1 p q) hok) (by simpa using hz)) fun g' l hw R'=>?_
   rw [ew] at R'
   exact h _ _ _ l R' hw
  ·refine call_meets PySem.F.slot_str_split (typeIs_str _ _ _) PySem.F.entry_str_split (PySem.F.args_str_split_2 _ _) (meets_str_split_not_found _ _ _ _ h1 hy' hf) (one ?_)
   unfold Txt.split; rw [h1,hf]; rfl
 ·refine call_meets PySem.F.slot_str_split (typeIs_str _ _ _) PySem.F.entry_str_split (PySem.F.args_str_split_2 _ _) (meets_str_split_cannot_occur _ _ _ _ h1) (one ?_)
  unfold Txt.split; rw [h1]; rfl
theorem RWs.uncons {x:W} {xs:List W} {us:List Value} (h:RWs g (x::xs) us) : ∃ u r,us=u::r∧RW g x u∧RWs g xs r:=by simpa only [RWs] using h
theorem yi4 {E:Value→Shared→Prop} {l:Addr} {vs:Array Value} {m:Nat} {t:Tok} {y:Value} {Q:Value→Shared→Prop} (ho:s.heap.get? l=some { cls:=.type "list",dict:=none,data:=.seq vs m,slots := #[] })
  (hy:vs[0]? = some y) (hz:vs.size≤sizeLine)
  (h : ∀ h' m',h'.get? l=some { cls:=.type "list",dict:=none,data:=.seq (vs.eraseIdxIfInBounds 0) m',slots := #[] }→Heap.SameBut l s.heap h'→Q y { s with heap:=h' }) :
  wpAny (KM K) A (PySem.call (.builtin "list.pop") [.ref l,.int 0 t]) Q E s:=by
 have hpos:0<vs.size:=by
  rcases Nat.eq_zero_or_pos vs.size with e | e
  ·rw [Array.getElem?_eq_none (by exact Nat.le_of_eq ‹_›)] at hy; cases hy
  ·exact e
 refine call_meets PySem.F.slot_list_pop (isL ho).typeIs PySem.F.entry_list_pop (PySem.F.args_list_pop_2 _ _) (MeetsSeq.list_pop_at l vs m 0 t 0 y (by decide +kernel) ?_ hy hz) ⟨ho,?_⟩
 ·unfold seqIndex?
  simp only [Int.lt_irrefl,if_false]
  have:((0:Int)<(vs.size:Int)):=by exact Int.ofNat_lt.mpr ‹_›
  simp [hpos]
 ·exact h _ _ (Heap.get?_update_self _ ho rfl) (Heap.SameBut.update ..)
theorem yf1 {E:Value→Shared→Prop} {l:Addr} {vs:Array Value} {Q:Value→Shared→Prop} (hl:s.heap.IsList l vs)
  (h:Q (.ref s.heap.objs.size) { s with heap:=s.heap.push { cls:=.type "list_iterator",data:=.fields #[.ref l,.int 0 0] } }) :
  wpAny (KM K) A (PySem.call (.builtin "iter") [.ref l]) Q E s:=by
 refine Calls.call_function_entry (by decide +kernel) (by decide +kernel) kdk_entry_iter (kdk_args_iter _) ?_
 unfold Builtin.«iter»
 refine wpAny_bind (m:=someArgs "iter" 1 2 _) (wpAny_of_eq (a:=[Value.ref l]) (by first | rfl | kernel_rfl!) ?_)
 show wpAny _ _ (pyIter (.ref l) >>= _) _ _ _
 refine wpAny_bind (wpAny_pyIter_list hl ?_)
 exact wpAny_pure ⟨_,rfl,h⟩
theorem Fn.next {a:Addr} {x:W} {xs:List W} (hs:SetO σ a (.iter (x::xs)) (.iter xs) σ'):Fn K n (.builtin "next") [.ref a] σ (.w x) σ':=.mk fun A E s Q g env ρ us F R hu h=>by
 simp only [RVs,RV] at hu
 (refine zb2 hu fun u r zq2 zq3 zq4=>?_; subst zq2; subst zq3; subst zq4)
 refine zc7 hs.split fun S1 S2 e1 e2=>?_
 refine zm2 (R.ob a (.iter (x::xs)) (by rw [e1]; simp)) fun ht l i vs hit hl hseq hi hw=>?_
 refine zb2 hw.uncons fun y rest ev hy hr=>?_
 have hx:vs[i]? = some y:=by
  have:(vs.toList.drop i)[0]? = some y:=by rw [ev]; rfl
  simpa using this
 have hlist:s.heap.IsList l vs:=by
  obtain ⟨m,hm⟩:=hseq
  exact isL (n:=m) (by rw [R.fix l (.inl hl),hm])
 refine Calls.call_function_entry (by decide +kernel) (by decide +kernel) kdk_entry_next (kdk_args_next _) ?_
 unfold Builtin.«next»
 refine wpAny_bind (m:=someArgs "next" 1 2 _) (wpAny_of_eq (a:=[Value.ref a]) (by first | rfl | kernel_rfl!) ?_)
 dsimp only
 refine wpAny_bind (wpAny_specialOf (name:=Str.ofString "__next__") hit.typeIs slot_listiter_next.lookup ?_)
 refine wpAny_ite_split (fun hab=>absurd hab (by decide)) (fun _=>?_)
 refine zd4 (id hit) fun o ho hc hd=>?_
 refine zz5 (id hlist) fun ol hol _ nl hdl=>?_
 refine wpAny_bind (wpAny_callSpecial?_slot (name:=Str.ofString "__next__") hit.typeIs slot_listiter_next
  (wpAny_call_entry slot_listiter_next hit.typeIs entry_listiter_next ?_ (args_listiter_next _)))
 show wpAny _ _ (field (.ref a) 0 >>= _) _ _ s
 refine wpAny_bind (wpAny_field ho hd (x:=.ref l) rfl ?_)
 show wpAny _ _ (if (Value.ref l==Value.none)=true then _ else _) _ _ s
 rw [if_neg (show ¬ ((Value.ref l==Value.none)=true) from Bool.false_ne_true)]
 show wpAny _ _ (field (.ref a) 1 >>= _) _ _ s
 refine wpAny_bind (wpAny_field ho hd (x:=.int i 0) rfl ?_)
 show wpAny _ _ (seqItems? (.ref l) >>= _) _ _ s
 refine wpAny_bind (wpAny_seqItems hol hdl ?_)
 simp only [Int.toNat_natCast,hx]
 refine wpAny_bind (wpAny_setField ho hd (by simp) (wpAny_pure ⟨y,rfl,?_⟩))
 have hs':Heap.SameBut a s.heap (s.heap.update a (Obj.mapFields (·.setIfInBounds 1 (rawInt ((i:Int)+1))))):=Heap.SameBut.update ..
 have hit':(s.heap.update a (Obj.mapFields (·.setIfInBounds 1 (rawInt ((i:Int)+1))))).IsListIter a l (i+1) :=
  ⟨_,Heap.get?_update_self _ ho (Obj.isFreed_of_fields (Obj.data_mapFields hd _)),(Obj.cls_mapFields ..).trans hc,by
  rw [Obj.data_mapFields hd]; simp [rawInt]⟩
 have hrest:vs.toList.drop (i+1)=rest:=by
  rw [← List.drop_drop,ev]; rfl
 have hil:i<vs.size:=by
  rcases Nat.lt_or_ge i vs.size with h | h
  ·exact h
  ·rw [Array.getElem?_eq_none h] at hx; cases hx
 refine wpAny_pure ⟨_,rfl,h g _ _ (.refl _) (e2 ▸ R.obWrite (tk:=s.toks) ht e1 (fun b hb=>hs'.2 b fun e=>by subst e; exact hb ht) (fun b hb=>?_) ?_) hy⟩
 ·by_cases e:b=a
  ·subst e; refine obEA hit' fun o e _=>?_; exact ⟨o,e⟩
  ·obtain ⟨o,ho2⟩:=R.live b _ hb
   exact ⟨o,(hs'.2 b e).trans ho2⟩
 ·exact ⟨ht,l,i+1,vs,hit',hl,hseq,⟨hil,hi.2⟩,by rw [hrest]; exact hr⟩
theorem EvN.iter {e:Expr} {q pos:Pos} {xs:List W} (hk:env.kindOf ("iter" : Str)=some .globalImplicit) (hx:K.mg ("iter" : Str)=none) (hb:K.mb ("iter" : Str)=some (.builtin "iter")) (h1:Ev K n env ρ e σ (.w (.list xs)) σ')
  (hs:starEach [e] env=(false,eval e env)::starEach [] env:=by rfl):EvN K n env ρ (.Call (.Name ("iter" : Str) q) [e] [] pos) σ (.iter xs) σ':=.mk fun A E s Q g F R h=>by
 refine wpAny_Call_ofName (Ev.bui hk hx hb (by decide) F R fun g0 s0 u0 l0 R0 r0=>?_)
 simp only [RV,RW] at r0; subst r0
 refine za6 (.builtin "iter") (by rw [za5,hs]; rfl) ?_
 refine spliced_more ?_ hs
 refine h1 F R0 fun g1 s1 u1 l1 R1 r1=>spliced_none ⟨R1.keeps,?_⟩
 simp only [RV] at r1
 (refine zd6 (RW.list R1 r1) fun a vs m zq3=>?_; obtain ⟨rfl,ht,e1,z1,w1⟩:=zq3)
 refine yf1 (isL e1) ?_
 have ho:=Heap.get?_push_size s1.heap (o:={ cls:=.type "list_iterator",data:=.fields #[.ref a,.int 0 0] }) rfl
 have R2:=(R1.push _).tagAs (t:=.obj s1.heap.objs.size) ho R1.fresh
 have l2:=Gh.le_set (t:=some (.obj s1.heap.objs.size)) (o:={ cls:=.type "list_iterator",data:=.fields #[.ref a,.int 0 0] }) R1.fresh
 refine h _ _ _ ((l0.trans l1).trans l2) (R2.addO ⟨(Gh.set_self _ _ _ _).1,a,0,vs,⟨_,ho,rfl,rfl⟩,(l2.base a ht).1,?_,⟨Nat.zero_le _,by rw [z1.2]; exact z1.1⟩,?_⟩ (R1.notIn (by rw [R1.fresh]; simp)))
 ·rw [(l2.base a ht).2]
  have:=R1.fix a (.inl ht)
  rw [e1] at this
  exact ⟨m,(Option.some.inj this).symm⟩
 ·exact RWs.mono l2.leB (by simpa using w1)
end
end Mine
namespace Mine
noncomputable abbrev L (x:String):List Nat:=(Str.ofString x).cps.toList
structure DefAt (K:Kc) (x:Str) (st:Stmt) (a:Addr) (fd:FuncData):Prop where
 mg:K.mg x=some (.ref a)
 fn:FnAt K a fd
 body:fd.body = .stmts (zb6 st)
 scope:fd.scope=za4 st
 bind : ∀ us:List Value,us.length=(zh6 st).length→bindArgs fd ⟨us,[]⟩=pure ((zh6 st).zip us)
section
variable {K:Kc} {n m:Nat} {env cenv ce:Env} {ρ ρ' ρ₁ ρ₂ ρ₃ ρ₀ ρc:Lo} {σ σ' σ₀ σ₁ σ₂ σ₃:List (Addr × O)} {g g₀ g₁ g₂ g₄:Gh} {s s₀ s' s₄:Shared} {A:Around} {items:List W}
theorem Fit.mono (F:Fit K n A) (h:m≤n):Fit K m A:=⟨by have:=F.depth; lia,by have:=F.units; lia,F.hand⟩
theorem Fn.mono {f:Value} {vs:List V} {v:V} (x:Fn K m f vs σ v σ') (h:m≤n):Fn K n f vs σ v σ':=.mk fun _ _ _ _ _ _ _ _ F=>x (F.mono h)
noncomputable def Calls (K:Kc) (n:Nat) (x:Str) (vs:List V) (σ:List (Addr × O)) (v:V) (σ':List (Addr × O)):Prop :=
 ∃ f,K.mg x=some f∧Callee K f∧Fn K n f vs σ v σ'
theorem Calls.of {x:Str} {st:Stmt} {a:Addr} {fd:FuncData} {vs:List V} {v:V} {o:Out} (D:DefAt K x st a fd) (P:Pars (za4 st) (zh6 st) vs ρ)
  (hb : ∀ env:Env,env.scope=za4 st→Ex K n env ρ σ (zb6 st) o ρ' σ') (ho:o = .ret v∨(o = .next∧v = .w .none))
  (hco:(za4 st).isCoroutine=false:=by rfl) (hgen:(za4 st).isGenerator=false:=by rfl) (hk:(za4 st).kind = .function:=by rfl):Calls K (n+1) x vs σ v σ' :=
 ⟨_,D.mg,.fn a fd D.fn,Fn.of D.fn D.body (fun us hu=>D.bind us (by rw [hu,P.len])) (D.scope ▸ P) (fun env he=>hb env (he.trans D.scope)) ho (by rw [D.scope]; exact hco) (by rw [D.scope]; exact hgen) (by rw [D.scope]; exact hk)⟩
theorem Ev.callG {x:Str} {p pos:Pos} {es:List Expr} {vs:List V} {v:V} (hk:env.kindOf x=some .globalImplicit) (h2:Evs K n env ρ es σ vs σ₁) (h3:Calls K n x vs σ₁ v σ₂) 
  (hd:(x==("__debug__" : Str))=false:=by kernel_rfl) (hp:(starEach es env).any (·.1)=false:=by rfl):Ev K n env ρ (.Call (.Name x p) es [] pos) σ v σ₂:=by
 refine zd4 h3 fun f hf C h3=>?_
 exact Ev.call (Ev.glob (u:=f) hk hf (fun g _=>by simp only [RW]) hd) C h2 h3 hp
theorem Ev.callB {x:Str} {p pos:Pos} {es:List Expr} {f:Value} {vs:List V} {v:V} (hk:env.kindOf x=some .globalImplicit) (hx:K.mg x=none) (hb:K.mb x=some f) (C:Callee K f) (h2:Evs K n env ρ es σ vs σ₁) (h3:Fn K n f vs σ₁ v σ₂) 
  (hd:(x==("__debug__" : Str))=false:=by kernel_rfl) (hp:(starEach es env).any (·.1)=false:=by rfl):Ev K n env ρ (.Call (.Name x p) es [] pos) σ v σ₂ :=
 Ev.call (Ev.bui hk hx hb hd) C h2 h3 hp
theorem Ev.gint {x:Str} {pos} {i:Int} (hk:env.kindOf x=some .globalImplicit) (hx : ∃ t,K.mg x=some (.int i t)) (hd:(x==("__debug__" : Str))=false:=by kernel_rfl):Ev K n env ρ (.Name x pos) σ (.w (.int i)) σ:=by
 obtain ⟨t,hx⟩:=hx
 exact Ev.glob hk hx (fun g _=>by simp only [RW]; exact ⟨t,rfl⟩) hd
theorem Ev.gstr {x:Str} {pos} {p:List Nat} (hk:env.kindOf x=some .globalImplicit) (hz:p.length≤sizeLine) (hx : ∃ t,K.mg x=some (.str ⟨p.toArray⟩ t)) (hd:(x==("__debug__" : Str))=false:=by kernel_rfl):Ev K n env ρ (.Name x pos) σ (.w (.str p)) σ:=by
 obtain ⟨t,hx⟩:=hx
 exact Ev.glob hk hx (fun g _=>by simp only [RW]; exact ⟨hz,t,rfl⟩) hd
theorem Ev.str {x:Str} {k pos} (hl:x.cps.size≤sizeLine:=by decide +kernel):Ev K n env ρ (.Constant (.str x) k pos) σ (.w (.str x.cps.toList)) σ :=
 Ev.cstr (by with_reducible repeat constructor) (by simpa using hl)
theorem za0 {sc:Scope} {x:Str} {k:Option NameKind} (he:env.scope=sc) (h:sc.names.lookup x=k):env.kindOf x=k:=by rw [Env.kindOf,he]; exact h
theorem Ex1.iteT {c:Expr} {a b:List Stmt} {pos} {t:Bool} {o:Out} (h1:Ts K n env ρ c σ t σ₁) (ht:t=true) (h2:Ex K n env ρ σ₁ a o ρ' σ'):Ex1 K n env ρ σ (.If c a b pos) o ρ' σ' :=
 Ex1.ite h1 (fun _=>h2) fun e=>by rw [ht] at e; cases e
theorem Ex1.iteF {c:Expr} {a b:List Stmt} {pos} {t:Bool} {o:Out} (h1:Ts K n env ρ c σ t σ₁) (ht:t=false) (h2:Ex K n env ρ σ₁ b o ρ' σ'):Ex1 K n env ρ σ (.If c a b pos) o ρ' σ' :=
 Ex1.ite h1 (fun e=>by rw [ht] at e; cases e) fun _=>h2
theorem Ex.one {st:Stmt} {o:Out} (h1:Ex1 K n env ρ σ st o ρ' σ'):Ex K n env ρ σ [st] o ρ' σ':=by
 cases o with
 | next=>exact Ex.cons h1 Ex.nil
 | brk=>exact Ex.stop h1 (by simp)
 | cont=>exact Ex.stop h1 (by simp)
 | ret v=>exact Ex.stop h1 (by simp)
theorem Ev.conv {e:Expr} {v v':V} (h:Ev K n env ρ e σ v σ') (hv:v=v'):Ev K n env ρ e σ v' σ':=hv ▸ h
theorem Ts.conv {e:Expr} {b b':Bool} (h:Ts K n env ρ e σ b σ') (hv:b=b'):Ts K n env ρ e σ b' σ':=hv ▸ h
theorem SetV.of {l l':List (Str × Option V)} {c:List (Str × V)} {x:Str} {v:V} (h:SetL l x v l'):SetV ⟨l,c⟩ x v ⟨l',c⟩:=⟨h,rfl⟩
theorem Pars.ofN {sc:Scope} {ps:List Str} {vs:List V} {l:List Str} (hlen:ps.length=vs.length) (hp : ∀ x∈ps++l,sc.names.lookup x=some .local∨sc.names.lookup x=some .cell) (hn:(ps++l).Nodup) :
  Pars sc ps vs ⟨ps.zipWith (fun x v=>(x,some v)) vs++l.map fun x=>(x,none),[]⟩ where
 cap:=rfl
 nd:=by
  have e:(ps.zipWith (fun x v=>(x,some v)) vs).map Prod.fst=ps:=by
   clear hn hp
   induction ps generalizing vs with
   | nil=>rfl
   | cons p ps ih=>cases vs with
    | nil=>simp at hlen
    | cons v vs=>simpa using ih (by simpa using hlen)
  simp only [List.map_append,e,List.map_map]
  simpa [Function.comp_def] using hn
 pnd:=(List.nodup_append.mp hn).1
 len:=hlen
 kind:=fun x ov hx=>by
  rcases List.mem_append.mp hx with hx | hx
  ·obtain ⟨i,hi,e⟩:=List.mem_iff_getElem.mp hx
   simp only [List.getElem_zipWith] at e; cases e
   exact hp _ (List.mem_append_left _ (List.getElem_mem _))
  ·refine obEA (List.mem_map.mp hx) fun y hy e=>?_; cases e; exact hp _ (List.mem_append_right _ hy)
 pk:=fun x hx=>hp x (List.mem_append_left _ hx)
 val:=fun x v' hx=>by
  rcases List.mem_append.mp hx with hx | hx
  ·obtain ⟨i,hi,e⟩:=List.mem_iff_getElem.mp hx
   simp only [List.getElem_zipWith] at e; cases e
   simp only [List.length_zipWith] at hi
   exact ⟨i,List.getElem?_eq_getElem (by lia),List.getElem?_eq_getElem (by lia)⟩
  ·refine obEA (List.mem_map.mp hx) fun y hy e=>?_; cases e
noncomputable def capsB (scope:Scope) (ys cn:List Str):Bool:=decide (scope.kind = .function∧ys.Nodup∧(∀ y∈ys,scope.names.lookup y=some .local∨scope.names.lookup y=some .cell)∧(∀ p∈scope.names,p.2 = .free→p.1∈cn) ∧
 (∀ p∈scope.names,p.2 = .local→scope.names.lookup p.1=some .local)∧(∀ p∈scope.names,p.2 = .free→(cellsFrom 0 scope.names []).lookup p.1=none)∧∀ x∈cn,scope.names.lookup x=some .free∧(x,NameKind.free)∈scope.names)
inductive CapL (env:Env) (ρ:Lo):List (Str × V)→Prop where
 | nil:CapL env ρ []
 | cell {x v cs} (h:env.kindOf x=some .cell) (hm:(x,some v)∈ρ.v) (t:CapL env ρ cs):CapL env ρ ((x,v)::cs)
 | free {x v cs} (hm:(x,v)∈ρ.c) (t:CapL env ρ cs):CapL env ρ ((x,v)::cs)
theorem CapL.at {cs:List (Str × V)} (h:CapL env ρ cs) : ∀ x v,(x,v)∈cs→(env.kindOf x=some .cell∧(x,some v)∈ρ.v)∨(x,v)∈ρ.c:=by
 induction h with
 | nil=>intro x v h; cases h
 | cell h hm t ih =>
  intro x v hx
  rcases List.mem_cons.mp hx with e | hx
  ·cases e; exact .inl ⟨h,hm⟩
  ·exact ih x v hx
 | free hm t ih =>
  intro x v hx
  rcases List.mem_cons.mp hx with e | hx
  ·cases e; exact .inr hm
  ·exact ih x v hx
theorem Caps.of {scope:Scope} (ys cn:List Str) (cs:List (Str × V)) (hcn:cs.map (·.1)=cn) (hk:scope.kind = .function) (hy:ys.Nodup)
  (h1 : ∀ y∈ys,scope.names.lookup y=some .local∨scope.names.lookup y=some .cell) (h2 : ∀ p∈scope.names,p.2 = .free→p.1∈cn)
  (h3 : ∀ p∈scope.names,p.2 = .local→scope.names.lookup p.1=some .local) (h4 : ∀ p∈scope.names,p.2 = .free→(cellsFrom 0 scope.names []).lookup p.1=none)
  (h5 : ∀ x∈cn,scope.names.lookup x=some .free∧(x,NameKind.free)∈scope.names) (hc : ∀ x v,(x,v)∈cs→(env.kindOf x=some .cell∧(x,some v)∈ρ.v)∨(x,v)∈ρ.c) :
  Caps K env ρ scope ⟨ys.map fun y=>(y,none),cs⟩ where
 kind:=hk
 nd:=by simpa [Function.comp_def] using hy
 own:=fun x ov hx=>by
  refine obEA (List.mem_map.mp hx) fun y hy e=>?_; cases e; exact ⟨rfl,h1 _ hy⟩
 cap:=fun x v hx=>by
  have hm:x∈cn:=by rw [← hcn]; exact List.mem_map_of_mem (f:=Prod.fst) hx
  (have zq:=h5 x hm; have a:=zq.1; have b:=zq.2)
  exact ⟨a,b,hc x v hx⟩
 all:=fun x hx=>by
  have hm:=h2 _ hx rfl
  rw [← hcn] at hm
  (refine obEA (List.mem_map.mp hm) fun zq0 hy zq2=>?_; obtain ⟨y,v⟩:=zq0; subst zq2)
  exact ⟨v,hy⟩
 names:=h3
 sep:=fun x hx=>h4 _ hx rfl
theorem Caps.ofB {scope:Scope} {cs:List (Str × V)} (ys:List Str) (hB:capsB scope ys (cs.map (·.1))=true) (L:CapL env ρ cs):Caps K env ρ scope ⟨ys.map fun y=>(y,none),cs⟩ :=
 have h:=of_decide_eq_true hB
 Caps.of ys _ cs rfl h.1 h.2.1 h.2.2.1 h.2.2.2.1 h.2.2.2.2.1 h.2.2.2.2.2.1 h.2.2.2.2.2.2 L.at
theorem Ex1.whileFrom {test:Expr} {body orelse:List Stmt} {pos} {o:Out} (N:Nat) (ρs:Nat→Lo) (σs σt:Nat→List (Addr × O)) (hρ:ρs 0=ρ) (hσ:σs 0=σ)
  (ht : ∀ k,k<N→Ts K n env (ρs k) test (σs k) true (σt k)) (hb : ∀ k,k<N→Ex K n env (ρs k) (σt k) body .next (ρs (k+1)) (σs (k+1)))
  (hN:Ts K n env (ρs N) test (σs N) false σ₁) (ho:Ex K n env (ρs N) σ₁ orelse o ρ' σ'):Ex1 K n env ρ σ (.While test body orelse pos) o ρ' σ':=by
 subst hρ hσ; exact Ex1.while N ρs σs σt ht hb hN ho
theorem Ev.len {x:Str} {p:List Nat} {p1 p2 p3:Pos} (hk:env.kindOf ("len" : Str)=some .globalImplicit) (h1:K.mg ("len" : Str)=none) (h2:K.mb ("len" : Str)=some (.builtin "len")) (hm:(x,some (V.w (.str p)))∈ρ.v) (hd:(x==("__debug__" : Str))=false) :
  Ev K n env ρ (.Call (.Name ("len" : Str) p1) [.Name x p2] [] p3) σ (.w (.int p.length)) σ:=Ev.callB hk h1 h2 (Callee.builtin _) (Evs.cons (Ev.name hm hd) Evs.nil (by rfl)) Fn.lenS (by kernel_rfl) (by rfl)
structure TabI (K:Kc) (x:Str) (f:Int→Option (List Nat)) (d:Addr) (fv:Int→Option Value):Prop where
 mg:K.mg x=some (.ref d)
 sys:(d==sysModules)=false
 map:K.s₀.heap.MapOf (intKind K.prog K.w) d fv
 tells : ∀ i,(f i=none∧fv i=none)∨∃ p t,f i=some p∧p.length≤sizeLine∧fv i=some (.str ⟨p.toArray⟩ t)
theorem MapOf.keeps' {h h':Heap} {KK:Type} [DecidableEq KK] {knd:KeyKind K.prog K.w KK} {a:Addr} {f:KK→Option Value} (m:h.MapOf knd a f) (k : ∀ b o,h.get? b=some o→h'.get? b=some o):h'.MapOf knd a f:=by
 refine zd9 m fun o es ep ho r=>?_; exact ⟨o,es,ep,k _ _ ho,r⟩
theorem Ev.dictGet {x:Str} {f:Int→Option (List Nat)} {d:Addr} {fv:Int→Option Value} {p apos pos:Pos} {e1 e2:Expr} {i:Int} {q:List Nat} (T:TabI K x f d fv) (hk:env.kindOf x=some .globalImplicit) (h1:Ev K n env ρ e1 σ (.w (.int i)) σ₁)
  (h2:Ev K n env ρ e2 σ₁ (.w (.str q)) σ₂) (hd:(x==("__debug__" : Str))=false:=by kernel_rfl) (hbase:attributeBase (.Name x p) "get" env (eval (.Name x p) env)=eval (.Name x p) env:=by rfl) (hline:(apos.endLine==pos.line)=true:=by rfl)
  (hs1:starEach [e1,e2] env=(false,eval e1 env)::starEach [e2] env:=by rfl) (hs2:starEach [e2] env=(false,eval e2 env)::starEach [] env:=by rfl) :
  Ev K n env ρ (.Call (.Attribute (.Name x p) "get" apos) [e1,e2] [] pos) σ (.w (.str ((f i).getD q))) σ₂:=.mk fun A E s Q g F R h=>by
 have hp:(starEach [e1,e2] env).any (·.1)=false:=by rw [hs1,hs2]; rfl
 refine wpAny_Call_method_late hbase ?_ hline rfl ?_
 ·have e:((backTo pos (starEach [e1,e2] env)).all fun x=>!x.1)=true:=by
   rw [List.all_eq_not_any_not]; simp only [Bool.not_not]; rw [za5,hp]; rfl
  rw [e,Bool.true_and]; rfl
 ·refine Ev.glob (w:=.glob (.ref d)) (u:=.ref d) hk T.mg (fun g _=>by simp only [RW]) hd F R fun g1 s1 u l1 R1 r1=>?_
  simp only [RV,RW] at r1; subst r1
  have m1:=MapOf.keeps' T.map R1.keeps
  refine ⟨"dict","dict.get",PySem.F.plainAttrs_dict,PySem.F.slot_dict_get,PySem.F.type_dict_get,m1.typeIs,m1.noDict,?_⟩
  refine za6 (.builtin _) (by rw [za5]; exact hp) ?_
  refine Evs.cons h1 (Evs.cons h2 Evs.nil hs2) hs1 F R1 fun g2 s2 us l2 R2 r2=>⟨R2.keeps,?_⟩
  simp only [RVs,RV] at r2
  obtain ⟨u,r,rfl,r2,u',r',rfl,r3,rfl⟩:=r2
  have r2':=r2
  simp only [RW] at r2'
  obtain ⟨t,rfl⟩:=r2'
  have m2:=MapOf.keeps' T.map R2.keeps
  refine call_meetsIn PySem.F.slot_dict_get m2.typeIs PySem.F.entry_dict_get (PySem.F.args_dict_get_3 _ _ _) (meets_dict_get_default (intKind K.prog K.w) d (intKind_is _ _ i t) T.sys u') ⟨fv,m2,?_⟩
  refine h g2 _ _ (l1.trans l2) (R2.toks _) ?_
  rcases T.tells i with ⟨a1,a2⟩ | ⟨pp,tt,a1,az,a2⟩
  ·rw [a1,a2]; exact r3
  ·rw [a1,a2]; simp only [Option.getD_some,RV,RW]; exact ⟨az,tt,rfl⟩
theorem Ex1.less {st:Stmt} {o:Out} (h1:Ex1 K n env ρ σ st o ρ₁ σ₁) (hρ:Less ρ₁ ρ') (hσ:σ'.Sublist σ₁):Ex1 K n env ρ σ st o ρ' σ':=.mk fun _ _ _ _ _ F R h =>
 h1 F R fun g1 s1 f l1 R1 r1=>h _ _ _ l1 (R1.less hρ hσ) r1
theorem Less.drop {p:Str × Option V} {l:List (Str × Option V)} {c:List (Str × V)} (h:Less ⟨l,c⟩ ρ'):Less ⟨p::l,c⟩ ρ' where
 nd:=fun h1=>h.nd (List.nodup_cons.mp h1).2
 v:=fun y ov hy=>by
  rcases h.v y ov hy with h | ⟨h,o',h'⟩
  ·exact .inl (List.mem_cons_of_mem _ h)
  ·exact .inr ⟨h,o',List.mem_cons_of_mem _ h'⟩
 c:=h.c
theorem Less.keep {p:Str × Option V} {l l':List (Str × Option V)} {c:List (Str × V)} (h:Less ⟨l,c⟩ ⟨l',c⟩):Less ⟨p::l,c⟩ ⟨p::l',c⟩ where
 nd:=fun h1=>by
  (have zq:=List.nodup_cons.mp h1; have a:=zq.1; have b:=zq.2)
  refine List.nodup_cons.mpr ⟨fun hm=>a ?_,h.nd b⟩
  (refine obEA (List.mem_map.mp hm) fun zq0 h1 h2=>?_; obtain ⟨x,o⟩:=zq0)
  rcases h.v x o h1 with h | ⟨_,o',h'⟩
  ·exact List.mem_map.mpr ⟨_,h,h2⟩
  ·exact List.mem_map.mpr ⟨_,h',h2⟩
 v:=fun y ov hy=>by
  rcases List.mem_cons.mp hy with e | hy
  ·exact .inl (e ▸ List.mem_cons_self)
  ·rcases h.v y ov hy with h | ⟨h,o',h'⟩
   ·exact .inl (List.mem_cons_of_mem _ h)
   ·exact .inr ⟨h,o',List.mem_cons_of_mem _ h'⟩
 c:=fun _ _ h=>h
theorem Less.skip {x:Str} {o:Option V} {l l':List (Str × Option V)} {c:List (Str × V)} (h:Less ⟨l,c⟩ ⟨l',c⟩):Less ⟨(x,o)::l,c⟩ ⟨(x,none)::l',c⟩ where
 nd:=fun h1=>by
  (have zq:=List.nodup_cons.mp h1; have a:=zq.1; have b:=zq.2)
  refine List.nodup_cons.mpr ⟨fun hm=>a ?_,h.nd b⟩
  (refine obEA (List.mem_map.mp hm) fun zq0 h1 h2=>?_; obtain ⟨y,o⟩:=zq0)
  rcases h.v y o h1 with h | ⟨_,o',h'⟩
  ·exact List.mem_map.mpr ⟨_,h,h2⟩
  ·exact List.mem_map.mpr ⟨_,h',h2⟩
 v:=fun y ov hy=>by
  rcases List.mem_cons.mp hy with e | hy
  ·cases e; exact .inr ⟨rfl,o,List.mem_cons_self⟩
  ·rcases h.v y ov hy with h | ⟨h,o',h'⟩
   ·exact .inl (List.mem_cons_of_mem _ h)
   ·exact .inr ⟨h,o',List.mem_cons_of_mem _ h'⟩
 c:=fun _ _ h=>h
end
end Mine
namespace Mine
section
variable {K:Kc} {n m:Nat} {env cenv ce:Env} {ρ ρ' ρ₁ ρ₂ ρ₃ ρ₀ ρc:Lo} {σ σ' σ₀ σ₁ σ₂ σ₃:List (Addr × O)} {g g₀ g₁ g₂ g₄:Gh} {s s₀ s' s₄:Shared} {A:Around} {items:List W}
theorem Less.none {l l':List (Str × Option V)} {c:List (Str × V)} (h:l'=l.map fun p=>(p.1,none)):Less ⟨l,c⟩ ⟨l',[]⟩:=by
 subst h; exact Less.hush ⟨l,c⟩
theorem Ex1.assign2 {x y:Str} {e:Expr} {p q pos} {v:V} (h1:Ev K n env ρ e σ v σ') (hx:SetV ρ x v ρ₁) (hy:SetV ρ₁ y v ρ')
  (hw:swappedStores [.Name x p,.Name y q] e env=pure Option.none:=by rfl) :
  Ex1 K n env ρ σ (.Assign [.Name x p,.Name y q] e pos) .next ρ' σ':=.mk fun _ _ _ _ _ F R h =>
 wpAny_Assign_two (h1 F R fun _ _ _ l1 R1 r1=>wpAny_assign_Name (zb4 R1 hx r1 fun s2 R2=>wpAny_assign_Name (zb4 R2 hy r1 fun s3 R3=>h _ _ _ l1 R3 rfl))) (by rfl) hw
theorem Ex1.swap2 {x y:Str} {e1 e2:Expr} {p q pos p1 p2:Pos} {k k':Nat} {v1 v2:V} (hd:K.hd=none) (h:Evs K n env ρ [e1,e2] σ [v1,v2] σ') (hx:env.kindOf x=some .local) (hy:env.kindOf y=some .local)
  (hv1:SetV ρ y v2 ρ₁) (hv2:SetV ρ₁ x v1 ρ')
  (hw:env.scope.kind = .function→env.kindOf x=some .local→env.kindOf y=some .local→swappedStores [.Tuple [.Name x p,.Name y q] k p1] (.Tuple [e1,e2] k' p2) env=pure (some [x,y])) :
  Ex1 K n env ρ σ (.Assign [.Tuple [.Name x p,.Name y q] k p1] (.Tuple [e1,e2] k' p2) pos) .next ρ' σ':=.mk fun A E s Q g F R h0=>by
 refine Assign_Tuple_swapped (names:=[x,y]) ?_ (by rfl) (hw R.fr.kind hx hy)
 refine wpAny_Tuple (h F R fun g1 s1 us l1 R1 r1=>?_)
 simp only [RVs] at r1
 obtain ⟨u1,r,rfl,r1,u2,r',rfl,r2,rfl⟩:=r1
 refine ⟨by rw [sizeLine_eq]; simp,?_⟩
 have ht:({ s1 with heap:=s1.heap.push { cls:=.type "tuple",data:=.seq [u1,u2].toArray } }:Shared).heap.IsTuple s1.heap.objs.size #[u1,u2]:=⟨_,Heap.get?_push_size _ rfl,rfl,_,rfl⟩
 have R2:=R1.push { cls:=.type "tuple",data:=.seq [u1,u2].toArray }
 refine wpAny_unpackItems_tuple (items := #[u1,u2]) (by rw [F.hand,hd]) ht fun h' he=>?_
 have R3:Rep K g1 env ρ σ' { s1 with heap:=h' }:=R2.heap (tk:=s1.toks) fun b t o e ho=>he b o (Nat.ne_of_lt (R2.lt e)) ho
 show wpAny _ A (assignInOrder [bindName env y,bindName env x] [u2,u1]) _ _ _
 refine wpAny_assignInOrder_more (bindName_ (zb4 R3 hv1 r2 fun s4 R4=>?_))
 refine wpAny_assignInOrder_more (bindName_ (zb4 R4 hv2 r1 fun s5 R5=>?_))
 exact wpAny_assignInOrder_none (h0 _ _ _ l1 R5 rfl)
theorem ItN.range1N {e1:Expr} {x:Str} {p q pos:Pos} {N:Nat} (hk:env.kindOf ("range" : Str)=some .globalImplicit) (hx:K.mg ("range" : Str)=Option.none) (hb:K.mb ("range" : Str)=some (.type "range")) (h1:Ev K n env ρ e1 σ (.w (.int (N:Nat))) σ') (hl:N<2 ^ 62)
  (hp:(starEach [e1] env).any (·.1)=false:=by rfl) (hs:starEach [e1] env=[(false,eval e1 env)]:=by rfl):ItN K n env ρ (.Call (.Name ("range" : Str) q) [e1] [] pos) σ (za3 0 1 N) σ' (.Name x p):=by
 have:=ItN.range1 (x:=x) (p:=p) (q:=q) (pos:=pos) hk hx hb h1 ⟨by lia,by lia⟩ hp hs
 simpa using this
theorem zK2 {N k:Nat} (h:k<N):(za3 0 1 N)[k]? = some (.int k):=by simp [za3,h]
theorem zb1 {N k:Nat} {w:W} (h:(za3 0 1 N)[k]? = some w):k<N∧w = .int (k:Nat):=by
 have hk:k<N:=by
  have:=(List.getElem?_eq_some_iff.mp h).1
  rwa [za1] at this
 exact ⟨hk,by rw [zK2 hk] at h; exact (Option.some.inj h).symm⟩
theorem Ex1.ite0 {c:Expr} {a b:List Stmt} {pos} {t:Bool} {o:Out} (ρ':Lo) (h1:Ts K n env ρ c σ t σ) (h2:t=true→Ex K n env ρ σ a o ρ' σ) (h3:t=false→Ex K n env ρ σ b o ρ' σ) :
  Ex1 K n env ρ σ (.If c a b pos) o ρ' σ:=Ex1.ite h1 h2 h3
theorem Ex1.skip {c:Expr} {a:List Stmt} {pos} {t:Bool} (h1:Ts K n env ρ c σ t σ₁) (ht:t=false):Ex1 K n env ρ σ (.If c a [] pos) .next ρ σ₁:=Ex1.iteF h1 ht Ex.nil
theorem Ex.ifT {c:Expr} {a b ss:List Stmt} {pos} {t:Bool} {o:Out} (h1:Ts K n env ρ c σ t σ₁) (ht:t=true) (h2:Ex K n env ρ σ₁ a o ρ' σ') (ho:o ≠ .next):Ex K n env ρ σ (.If c a b pos::ss) o ρ' σ':=Ex.stop (Ex1.iteT h1 ht h2) ho
theorem Ex.ifF {c:Expr} {a ss:List Stmt} {pos} {t:Bool} {o:Out} (h1:Ts K n env ρ c σ t σ₁) (ht:t=false) (h2:Ex K n env ρ σ₁ ss o ρ' σ'):Ex K n env ρ σ (.If c a [] pos::ss) o ρ' σ':=Ex.cons (Ex1.skip h1 ht) h2
theorem zN0 (p:List Nat):zj7 (.str p)=some (!p.isEmpty):=by cases p <;> rfl
theorem Ts.strv {e:Expr} {p:List Nat} (h1:Ev K n env ρ e σ (.w (.str p)) σ') (he : ∀ whole,isTrue e env whole=(do let v ← whole; standAt e.pos; holding [v] (truthy v)):=by intro _; rfl):Ts K n env ρ e σ (!p.isEmpty) σ' :=
 Ts.val h1 (zN0 p) he
end
end Mine
namespace Mine
noncomputable def loC (c:Nat):Nat:=if 65≤c∧c≤90 then c+32 else c
noncomputable def subC (p q:Nat):Int:=if p=q then 0 else if loC p=loC q then 1 else 2
noncomputable def preN:List Nat→List Nat→Nat
 | x::xs,y::ys=>if x=y then preN xs ys+1 else 0
 | _,_=>0
noncomputable def zu8 (a b:List Nat):List Nat × List Nat :=
 let p:=preN a b
 let a1:=a.drop p
 let b1:=b.drop p
 let q:=preN a1.reverse b1.reverse
 (a1.take (a1.length - q),b1.take (b1.length - q))
structure LvS where
 d:Int
 r:Int
 m:Int
 row:List Int
noncomputable def zh8 (bc:Nat) (a:List Nat) (t:LvS) (k:Nat):LvS :=
 let r:=min (min t.r (t.row.getD k 0)+2) (t.d+subC bc (a.getD k 0))
 ⟨t.row.getD k 0,r,if r<t.m then r else t.m,t.row.set k r⟩
noncomputable def lvIn (bc:Nat) (a:List Nat) (row:List Int) (bi:Nat):Nat→LvS
 | 0=>⟨(bi:Int)*2,(bi:Int)*2,9223372036854775807,row⟩
 | k+1=>zh8 bc a (lvIn bc a row bi k) k
noncomputable def zl1 (k:Nat):List Int:=(List.range k).map fun (i:Nat)=>2+(i:Int)*2
noncomputable def zc6 (a b:List Nat):Nat→LvS
 | 0=>⟨0,0,0,zl1 a.length⟩
 | j+1=>lvIn (b.getD j 0) a (zc6 a b j).row j a.length
noncomputable def zK7 (a b:List Nat) (mc:Int):Int:=if (List.range b.length).any (fun j=>decide (mc<(zc6 a b (j+1)).m))=true then mc+1 else (zc6 a b b.length).r
noncomputable def zX7 (x y:List Nat) (mc:Int):Int:=if mc<((y.length:Int) - x.length)*2 then mc+1 else zK7 x y mc
noncomputable def yd9 (t:List Nat × List Nat) (mc:Int):Int :=
 if t.1=[]∨t.2=[] then 2*(t.1.length+t.2.length:Int) else
 if t.2.length<t.1.length then zX7 t.2 t.1 mc else zX7 t.1 t.2 mc
noncomputable def lev (a b:List Nat) (mc:Int):Int:=if a=b then 0 else yd9 (zu8 a b) mc
theorem zP0 : ∀ {a b:List Nat} {k:Nat},k<preN a b→∃ c,a[k]? = some c∧b[k]? = some c
 | [],_,k,h=>by simp [preN] at h
 | _::_,[],k,h=>by simp [preN] at h
 | x::xs,y::ys,k,h=>by
  unfold preN at h
  split at h
  ·rename_i e
   subst e
   cases k with
   | zero=>exact ⟨x,rfl,rfl⟩
   | succ k=>simpa using zP0 (a:=xs) (b:=ys) (by exact Nat.le_of_lt_succ ‹_›)
  ·contradiction
theorem zG7 : ∀ (a b:List Nat),a[preN a b]? = none∨b[preN a b]? = none∨∃ c d,a[preN a b]? = some c∧b[preN a b]? = some d∧c≠d
 | [],_=>by simp
 | _::_,[]=>by simp
 | x::xs,y::ys=>by
  unfold preN
  split
  ·simpa using zG7 xs ys
  ·rename_i e
   exact .inr (.inr ⟨x,y,rfl,rfl,e⟩)
theorem zP1 : ∀ (a b:List Nat),preN a b≤a.length∧preN a b≤b.length
 | [],_=>by simp [preN]
 | _::_,[]=>by simp [preN]
 | x::xs,y::ys=>by
  unfold preN
  have:=zP1 xs ys
  split <;> simp <;> trivial
theorem zw0 (bc:Nat) (a:List Nat) (row:List Int) (bi:Nat) : ∀ k,(lvIn bc a row bi k).row.length=row.length
 | 0=>rfl
 | k+1=>by simp [lvIn,zh8,zw0 bc a row bi k]
theorem zz8 (a b:List Nat) : ∀ j,(zc6 a b j).row.length=a.length
 | 0=>by simp [zc6,zl1]
 | j+1=>by simp [zc6,zw0,zz8 a b j]
theorem least (P:Nat→Prop) : ∀ n,P n→∃ j,j≤n∧P j∧∀ k,k<j→¬ P k:=by
 intro n
 induction n using Nat.strongRecOn with
 | _ n ih =>
  intro h
  by_cases c : ∃ k,k<n∧P k
  ·refine obEA c fun k hk hp=>?_
   refine zd4 (ih k hk hp) fun j h1 h2 h3=>?_
   exact ⟨j,by lia,h2,h3⟩
  ·exact ⟨n,Nat.le_refl _,h,fun k hk hp=>c ⟨k,hk,hp⟩⟩
theorem zG1 (a b:List Nat):(zu8 a b).1.length≤a.length∧(zu8 a b).2.length≤b.length:=by
 unfold zu8; simp; lia
theorem range2 : ∀ l:Nat,l<41→Builtin.Range.rangeSize 2 (2*((l:Int)+1)) 2=(l:Int)∧Builtin.Range.small 2 (2*((l:Int)+1)) 2=true∧Builtin.divisionGoesByPylong (2*((l:Int)+1) - 2) 2=false:=by decide +kernel
theorem zj0 {α:Type} (xs:List α) (k:Nat):cut1 (some (k:Int)) none xs=xs.drop k:=by
 unfold cut1 ze1
 simp only [List.take_length]
 rw [if_neg (by simp)]
 rcases Nat.le_total k xs.length with h | h
 ·rw [Int.toNat_natCast,Nat.min_eq_left h]
 ·rw [Int.toNat_natCast,Nat.min_eq_right h,List.drop_length,List.drop_eq_nil_of_le h]
theorem zi9 {α:Type} (xs:List α) (k:Nat):cut1 none (if k=0 then none else some (-(k:Int))) xs=xs.take (xs.length - k):=by
 unfold cut1
 split
 ·rename_i h; subst h; simp [ze1]
 ·rename_i h
  unfold ze1
  simp only [List.drop_zero]
  rw [if_pos (by lia)]
  congr 1; lia
theorem zA7 (p:List Nat) (k:Nat) (h:k<p.length):getS p (-(k:Int) - 1)=p.reverse[k]? := by
 unfold getS
 rw [if_pos (by lia),if_pos (by lia),List.getElem?_reverse h]
 congr 1; lia
section
variable {K:Kc} {n m:Nat} {env:Env} {ρ:Lo} {σ:List (Addr × O)}
theorem EvO.post {x:Str} {p1 pos pc:Pos} {c} {k:Nat} (h:Ev K n env ρ (.Name x p1) σ (.w (.int (-(k:Nat)))) σ) :
  EvO K n env ρ (some (.BoolOp .Or [.Name x p1,.Constant .none c pc] pos)) σ (if k=0 then none else some (-(k:Int))) σ:=by
 split
 ·rename_i h0; subst h0
  exact EvO.non (Ev.or2 (v:=.none) (t:=false) h (by simp [zj7]) (fun _=>Ev.cnone) (fun h=>by cases h))
 ·rename_i h0
  exact EvO.num (Ev.or2 (v:=.int (-(k:Int))) (t:=true) h (by simp [zj7]; trivial) (fun h=>by cases h) (fun _=>⟨rfl,rfl⟩))
theorem zv1 {x y u v:Str} {p q p1 p2 pu pv:Pos} {k k':Nat} (hxy:(x==y)=false) (hu:(u==("__debug__" : Str))=false) (hl:(q.line==p.line)=true) :
  env.scope.kind = .function→env.kindOf x=some .local→env.kindOf y=some .local→swappedStores [.Tuple [.Name x p,.Name y q] k p1] (.Tuple [.Name u pu,.Name v pv] k' p2) env=pure (some [x,y]):=by
 intro h1 h2 h3
 have hb:(env.blockKind != .function)=false:=by unfold Env.blockKind; rw [h1]; rfl
 have key:swappedStores [.Tuple [.Name x p,.Name y q] k p1] (.Tuple [.Name u pu,.Name v pv] k' p2) env =
   (if (env.blockKind != .function)=true then pure none else
    have names:=[if (env.kindOf x==some .local&&p.line==p.line)=true then some x else none,if (env.kindOf y==some .local&&q.line==p.line)=true then some y else none].filterMap id
    if (names.length != 2||names.eraseDups.length != names.length)=true then pure none else
    if ((u==("__debug__" : Str))&&((v==("__debug__" : Str))&&true))=true then unsupported "assign.tuple-of-constant-expressions:order-of-the-stores" >>= fun _=>pure (some names) else pure (some names)):=rfl
 have e0:(some NameKind.local==some NameKind.local)=true:=by decide
 have e1:(p.line==p.line)=true:=by simp
 rw [key,hb,h2,h3,e0,hl,e1,hu]
 have hd:[x,y].eraseDups.length=2:=by simp [List.eraseDups_cons,show ¬ y=x from fun e=>by subst e; simp at hxy]
 show (if ((false||[x,y].eraseDups.length != 2))=true then _ else _)=_
 rw [hd]; rfl
end
theorem zz9 : ∀ c:Nat,c<128→Txt.lower ⟨#[c]⟩=⟨#[loC c]⟩:=by decide +kernel
end Mine
namespace Mine
section
variable {K:Kc} {n m:Nat} {env cenv ce:Env} {ρ ρ' ρ₁ ρ₂ ρ₃ ρ₀ ρc:Lo} {σ σ' σ₀ σ₁ σ₂ σ₃:List (Addr × O)} {g g₀ g₁ g₂ g₄:Gh} {s s₀ s' s₄:Shared} {A:Around} {items:List W}
structure ExcF (g:Gh) (h:Heap) (e:Addr) (T:String):Prop where
 tag:g.tag e=none
 obj : ∃ oe vs,h.get? e=some oe∧oe.cls = .type T∧oe.data = .fields vs∧vs[1]? = some .none∧vs[2]? = some .none
structure ExcT (g:Gh) (h:Heap) (e:Addr) (T:String):Prop where
 tag:g.tag e=none
 obj : ∃ oe vs tb ot ts,h.get? e=some oe∧oe.cls = .type T∧oe.data = .fields vs∧vs[1]? = some (.ref tb)∧vs[2]? = some .none∧tb≠e∧g.tag tb=none∧h.get? tb=some ot∧ot.data = .fields ts∧ts[3]? = some .none
theorem zW5 {α:Type} {E:Value→Shared→Prop} {Q:α→Shared→Prop} (hh:A.handled=none)
  (h : ∀ h' a oe vs,(∀ b o,s.heap.get? b=some o→h'.get? b=some o)→s.heap.get? a=none→h'.get? a=some oe→oe.cls = .type "StopIteration" → oe.data = .fields vs→vs[1]? = some .none→vs[2]? = some .none→E (.ref a) { s with heap:=h' }) :
  wpAny (KM K) A (do raiseNew (← newExc (.type "StopIteration") []):Sem α) Q E s:=by
 refine wpAny_bind ?_
 simp only [newExc,newTuple]
 refine wpAny_bind (wpAny_newObj_type ?_ (by size_fits))
 refine wpAny_bind (m:=firstArgMember _ _) (wpAny_of_eq (a:=Value.none) (by first | rfl | (simp only [firstArgMember]; rfl)) ?_)
 refine wpAny_newObj_type ?_ (by size_fits)
 refine wpAny_raiseNew_none hh (h _ _ { cls:=.type "StopIteration",data:=.fields (#[Value.ref s.heap.objs.size,.none,.none,.none,.bool false,.none]++ownMembersOf (.type "StopIteration") []) } _
  (fun b o e=>Heap.get?_push_of_some _ (Heap.get?_push_of_some _ e)) ?_ (Heap.get?_push_size _ rfl) rfl rfl ?_ ?_)
 ·exact Heap.get?_none_of_le (by simp)
 ·rw [Array.getElem?_append_left (by simp)]; rfl
 ·rw [Array.getElem?_append_left (by simp)]; rfl
noncomputable def zz6:Heap:={ objs := #[] }
theorem zA8 {l:List Env} (h : ∀ c∈l,c.scope.kind = .function∧∃ L m,c.frame=some L∧s.heap.Ns L m):s.heap.FunFrames zz6 l:=by
 induction l with
 | nil=>trivial
 | cons c r ih =>
  refine zE2 (h c List.mem_cons_self) fun h1 L m h2 o es ep h3 h4 _=>?_
  exact ⟨by rw [h1]; simp,⟨L,o,h2,rfl,h3,fun vs q=>by rw [h4] at q; cases q⟩,ih fun d hd=>h d (List.mem_cons_of_mem _ hd)⟩
theorem zw8 {E:Value→Shared→Prop} {outer:List Env} {L e:Addr} {oe:Obj} {vs:Array Value} {head:Value} {hadNext:Bool} {Q:Unit→Shared→Prop} {M:Model}
  (hfr:A.frames=some (env::outer)) (hl:s.heap.FunFrames zz6 (env::outer)) (hf:env.frame=some L)
  (he:s.heap.get? e=some oe) (hd:oe.data = .fields vs) (hsz:1<vs.size)
  (h : ∀ h' tb ot ts,(∀ b o,b≠e→b∉(env::outer).filterMap (·.frame)→s.heap.get? b=some o→h'.get? b=some o)→(∀ b o,b≠e→s.heap.get? b=some o→∃ sl,h'.get? b=some { o with slots:=sl }) →
   h'.get? e=some (oe.mapFields (·.setIfInBounds 1 (.ref tb)))→s.heap.get? tb=none→tb≠e→h'.get? tb=some ot→ot.data = .fields ts→ts[3]? = some (rawInt L)→Q () { s with heap:=h' }) :
  wpAny M A (do let a ← frameOf env; let pl ← entryPlaceOf L hadNext; let b ← EntryCells.newEntry head a .none (rawInt L) .none pl; setField (.ref e) 1 b) Q E s:=by
 have hene:e∉(env::outer).filterMap (·.frame):=fun hm=>by
  refine yd8 (hl.mem hm) fun _ o ho hnf=>?_
  rw [he] at ho; injection ho with ho; subst ho; exact hnf vs hd
 refine wpAny_bind (wpAny_frameOf_fun hfr hl hf fun h₁ hs₁=>?_)
 refine wpAny_bind (wpAny_entryPlaceOf fun pl hpl=>?_)
 unfold EntryCells.newEntry newFields
 refine wpAny_bind (wpAny_newObj_type ?_ (hpl.sizeOk5 _ _ _ _ _))
 have he₁:h₁.get? e=some oe:=(hs₁.2.1 e hene).trans he
 have he₂:=Heap.get?_push_of_some (h:=h₁) { cls:=.type "traceback",dict:=none,data:=.fields ([head,.ref L,.none,rawInt L,.none]++(if pl.isEmpty then List.replicate 6 Value.none else pl)).toArray } he₁
 have hTe:h₁.objs.size≠e:=Nat.ne_of_gt (Heap.lt_size he₁)
 have hd₃:=Obj.data_mapFields hd (·.setIfInBounds 1 (Value.ref h₁.objs.size))
 refine wpAny_setField he₂ hd hsz (h _ h₁.objs.size { cls:=.type "traceback",dict:=none,data:=.fields ([head,.ref L,.none,rawInt L,.none]++(if pl.isEmpty then List.replicate 6 Value.none else pl)).toArray } _ ?_ ?_ ?_ ?_ hTe ?_ rfl ?_)
 ·intro b o hbe hbf hb
  rw [Heap.get?_update_other _ _ (Ne.symm hbe)]
  exact Heap.get?_push_of_some _ ((hs₁.2.1 b hbf).trans hb)
 ·intro b o hbe hb
  obtain ⟨sl,hsl⟩:=hs₁.2.2 b o hb
  exact ⟨sl,by rw [Heap.get?_update_other _ _ (Ne.symm hbe)]; exact Heap.get?_push_of_some _ hsl⟩
 ·exact Heap.get?_update_self (Obj.mapFields (·.setIfInBounds 1 (Value.ref h₁.objs.size))) he₂ (Obj.isFreed_of_fields hd₃)
 ·exact Heap.get?_none_of_le (by rw [hs₁.1]; exact Nat.le_refl _)
 ·rw [Heap.get?_update_other _ _ (Ne.symm hTe)]; exact Heap.get?_push_size h₁ rfl
 ·rcases hpl with rfl | ⟨_,_,_,_,_,_,_,rfl⟩ <;> simp
theorem zF1 {E:Value→Shared→Prop} {e tb:Addr} {oe ot:Obj} {vs ts:Array Value} {Q:Unit→Shared→Prop} {M:Model} (he:s.heap.get? e=some oe) (hd:oe.data = .fields vs) (h1:vs[1]? = some (.ref tb))
  (ht:s.heap.get? tb=some ot) (hdt:ot.data = .fields ts) (hz:3<ts.size)
  (h : ∀ h' ot' ts',(∀ b,b≠tb→h'.get? b=s.heap.get? b)→h'.get? tb=some ot'→ot'.data = .fields ts'→ts'[3]? = some .none→Q () { s with heap:=h' }):wpAny M A (setFlight (.ref e) none) Q E s:=by
 unfold setFlight
 refine wpAny_bind (wpAny_field he hd h1 ?_)
 rw [if_pos (show (Value.ref tb != Value.none)=true from by simp)]
 refine wpAny_setField ht hdt hz (h _ _ _ (fun b hb=>Heap.get?_update_other _ _ (Ne.symm hb)) (Heap.get?_update_self _ ht (Obj.isFreed_of_fields (Obj.data_mapFields hdt _))) (Obj.data_mapFields hdt _) ?_)
 simp [hz]
theorem Rep.slots (R:Rep K g env ρ σ s) {h':Heap} (hk : ∀ b t o,g.tag b=some t→b≠env.locals→s.heap.get? b=some o→h'.get? b=some o)
  (hl : ∀ o,s.heap.get? env.locals=some o→∃ sl,h'.get? env.locals=some { o with slots:=sl }):Rep K g env ρ σ { s with heap:=h' }:=by
 have hq : ∀ b t,g.tag b=some t→b≠env.locals→h'.get? b=s.heap.get? b:=fun b t e hb=>by
  obtain ⟨o,ho⟩:=R.live b t e
  rw [ho]; exact hk b t o e hb ho
 have nf : ∀ b t,g.tag b=some t→t ≠ .frame→b≠env.locals:=fun b t e ht hb=>by subst hb; rw [R.fr.lt] at e; cases e; exact ht rfl
 refine obEE R.sh fun h t hs=>?_
 refine ⟨R.G,R.hd,⟨h',t,by rw [hs]⟩,fun a t e=>?_,fun a e=>?_,R.gnd,?_,fun a o m=>?_,R.nd⟩
 ·obtain ⟨o,ho⟩:=R.live a t e
  by_cases ha:a=env.locals
  ·subst ha
   obtain ⟨sl,h2⟩:=hl o ho
   exact ⟨_,h2⟩
  ·exact ⟨o,hk a t o e ha ho⟩
 ·rcases e with e | e
  ·exact (hq a _ e (nf a _ e (by simp))).trans (R.fix a (.inl e))
  ·exact (hq a _ e (nf a _ e (by simp))).trans (R.fix a (.inr e))
 ·have F:=R.fr
  exact { F with
   var:=by
    (refine obEA F.var fun mm zq1 hv=>?_; obtain ⟨o,es,ep,ho,hd,r⟩:=zq1)
    obtain ⟨sl,h2⟩:=hl o ho
    refine ⟨mm,⟨_,es,ep,h2,hd,r⟩,fun y ov hy=>?_⟩
    rcases hv y ov hy with ⟨h1,h2⟩ | ⟨h1,c,u,h2,h3,h4,h5⟩
    ·exact .inl ⟨h1,h2⟩
    ·exact .inr ⟨h1,c,u,h2,h3,IsCell.eqAt h4 (hq c _ h3 (F.nel y c h2)),h5⟩
   cap:=fun y v hy=>by
    refine zc5 (F.cap y v hy) fun h1 c u h2 h3 h4 h5=>?_
    exact ⟨h1,c,u,h2,h3,IsCell.eqAt h4 (hq c _ h3 (F.nel y c h2)),h5⟩ }
 ·exact (R.ob a o m).move (fun b e=>⟨e,rfl⟩) fun b e=>⟨e,hq b _ e (nf b _ e (by simp))⟩
structure FnX0 (K:Kc) (n:Nat) (f:Value) (vs:List V) (σ:List (Addr × O)) (T:String) (σ':List (Addr × O)):Prop where
 go : ∀ ⦃A:Around⦄ ⦃E:Value→Shared→Prop⦄ ⦃s:Shared⦄ ⦃Q:Value→Shared→Prop⦄ ⦃g:Gh⦄ ⦃env:Env⦄ ⦃ρ:Lo⦄ ⦃us:List Value⦄,Fit K n A→Rep K g env ρ σ s→RVs g vs us →
  (∀ g' s' e,g.le g'→Rep K g' env ρ σ' s'→ExcF g' s'.heap e T→E (.ref e) s')→wpAny (KM K) A (call f us) Q E s
structure EvX0 (K:Kc) (n:Nat) (env:Env) (ρ:Lo) (e:Expr) (σ:List (Addr × O)) (T:String) (σ':List (Addr × O)):Prop where
 go : ∀ ⦃A:Around⦄ ⦃E:Value→Shared→Prop⦄ ⦃s:Shared⦄ ⦃Q:Value→Shared→Prop⦄ ⦃g:Gh⦄,Fit K n A→Rep K g env ρ σ s →
  (∀ g' s' e,g.le g'→Rep K g' env ρ σ' s'→ExcF g' s'.heap e T→E (.ref e) s')→wpAny (KM K) A (eval e env) Q E s
structure ExX0 (K:Kc) (n:Nat) (env:Env) (ρ:Lo) (σ:List (Addr × O)) (ss:List Stmt) (T:String) (σ':List (Addr × O)):Prop where
 go : ∀ ⦃A:Around⦄ ⦃E:Value→Shared→Prop⦄ ⦃s:Shared⦄ ⦃Q:Flow→Shared→Prop⦄ ⦃g:Gh⦄,Fit K n A→Rep K g env ρ σ s →
  (∀ g' s' ρ' e,g.le g'→Rep K g' env ρ' σ' s'→ExcF g' s'.heap e T→E (.ref e) s')→wpAny (KM K) A (execs ss env) Q E s
structure Noted (h h':Heap) (e L:Addr) (fs:List Addr):Prop where
 at' : ∃ oe vs tb ot ts,h.get? e=some oe∧oe.data = .fields vs∧(∀ b o,b≠e→b∉fs→h.get? b=some o→h'.get? b=some o)∧(∀ b o,b≠e→h.get? b=some o→∃ sl,h'.get? b=some { o with slots:=sl }) ∧
  h'.get? e=some (oe.mapFields (·.setIfInBounds 1 (.ref tb)))∧h.get? tb=none∧tb≠e∧h'.get? tb=some ot∧ot.data = .fields ts∧ts[3]? = some (rawInt L)
structure ExY (K:Kc) (n:Nat) (env:Env) (ρ:Lo) (σ:List (Addr × O)) (ss:List Stmt) (T:String) (σ':List (Addr × O)):Prop where
 go : ∀ ⦃A:Around⦄ ⦃E:Value→Shared→Prop⦄ ⦃s:Shared⦄ ⦃Q:Flow→Shared→Prop⦄ ⦃g:Gh⦄ ⦃outer:List Env⦄,Fit K n A→A.frames=some (env::outer)→env.frame=some env.locals →
  (∀ g' s' ρ' σ₁,g.le g'→Rep K g' env ρ' σ₁ s'→s'.heap.FunFrames zz6 (env::outer))→Rep K g env ρ σ s →
  (∀ g' s' ρ' e,g.le g'→Rep K g' env ρ' σ' s'→ExcF g' s'.heap e T→E (.ref e) s'∧∀ h',Noted s'.heap h' e env.locals ((env::outer).filterMap (·.frame))→E (.ref e) { s' with heap:=h' }) →
  wpAny (KM K) A (execs ss env) Q E s
theorem ExX0.toY {ss:List Stmt} {T:String} (h1:ExX0 K n env ρ σ ss T σ'):ExY K n env ρ σ ss T σ':=.mk fun _ _ _ _ _ _ F _ _ _ R h=>h1.go F R fun g' s' ρ' e l R' X=>(h g' s' ρ' e l R' X).1
theorem ExX0.cons {st:Stmt} {ss:List Stmt} {T:String} (h1:Ex1 K n env ρ σ st .next ρ₁ σ₁) (h2:ExX0 K n env ρ₁ σ₁ ss T σ'):ExX0 K n env ρ σ (st::ss) T σ':=.mk fun _ _ _ _ _ F R h =>
 wpAny_execs_cons (h1 F R fun g1 s1 f l1 R1 r1=>by
  obtain rfl:=RF.nextE r1
  exact h2.go F R1 fun g2 s2 ρ2 e l2 R2 X=>h g2 s2 ρ2 e (l1.trans l2) R2 X)
theorem ExY.cons {st:Stmt} {ss:List Stmt} {T:String} (h1:Ex1 K n env ρ σ st .next ρ₁ σ₁) (h2:ExY K n env ρ₁ σ₁ ss T σ'):ExY K n env ρ σ (st::ss) T σ':=.mk fun _ _ _ _ _ _ F hf he hff R h =>
 wpAny_execs_cons (h1 F R fun g1 s1 f l1 R1 r1=>by
  obtain rfl:=RF.nextE r1
  exact h2.go F hf he (fun g' s' ρ' σ₁ l=>hff g' s' ρ' σ₁ (l1.trans l)) R1 fun g2 s2 ρ2 e l2 R2 X=>h g2 s2 ρ2 e (l1.trans l2) R2 X)
theorem ExY.while {test:Expr} {body orelse ss:List Stmt} {pos} {T:String} (h1:Ts K n env ρ test σ true σ₁) (h2:ExX0 K n env ρ σ₁ body T σ'):ExY K n env ρ σ (.While test body orelse pos::ss) T σ':=.mk fun A E s Q g outer F hf he hff R h=>by
 refine wpAny_execs_cons (wpAny_While (codeAny_whileLoop (fun _ s'=>s'=s) ?_ 0 rfl))
 rintro _ _ rfl
 refine h1 F R fun g1 s1 l1 R1=>?_
 simp only [if_true]
 refine h2.go F R1 fun g2 s2 ρ2 e l2 R2 X=>?_
 refine zi4 X.obj fun oe vs k1 k2 k3 k4 k5=>?_
 have hsz:=(Array.getElem?_eq_some_iff.mp k4).1
 unfold notedBy noteFrame
 simp only [he]
 refine wpAny_bind (wpAny_field k1 k3 k4 ?_)
 rw [if_neg (by decide)]
 refine zw8 hf (hff g2 s2 ρ2 _ (l1.trans l2) R2) he k1 k3 hsz fun h' tb ot ts q1 q2 q3 q4 q5 q6 q7 q8=>?_
 have hd3:=Obj.data_mapFields k3 (·.setIfInBounds 1 (Value.ref tb))
 have hz:=(Array.getElem?_eq_some_iff.mp q8).1
 unfold cameBackBy
 refine wpAny_bind (wpAny_field (x:=.ref tb) q3 hd3 (by simp [hsz]) ?_)
 rw [if_neg (show ¬ ((Value.ref tb==Value.none)=true) from Bool.false_ne_true)]
 unfold setFlight
 refine wpAny_bind (wpAny_field (x:=.ref tb) q3 hd3 (by simp [hsz]) ?_)
 rw [if_pos (show (Value.ref tb != Value.none)=true from rfl)]
 refine wpAny_setField q6 q7 hz ?_
 refine (h g2 s2 ρ2 e (l1.trans l2) R2 X).2 _ ⟨oe,vs,tb,_,_,k1,k3,fun b o hb hf' ho=>?_,fun b o hb ho=>?_,?_,q4,q5,Heap.get?_update_self _ q6 (Obj.isFreed_of_fields (Obj.data_mapFields q7 _)),Obj.data_mapFields q7 _,?_⟩
 ·have hbt:tb≠b:=fun x=>by subst x; rw [q4] at ho; cases ho
  exact (Heap.get?_update_other _ _ hbt).trans (q1 b o hb hf' ho)
 ·have hbt:tb≠b:=fun x=>by subst x; rw [q4] at ho; cases ho
  obtain ⟨sl,hs⟩:=q2 b o hb ho
  exact ⟨sl,(Heap.get?_update_other _ _ hbt).trans hs⟩
 ·exact (Heap.get?_update_other _ _ q5).trans q3
 ·simp [he,hz]
structure FnX (K:Kc) (n:Nat) (f:Value) (vs:List V) (σ:List (Addr × O)) (T:String) (σ':List (Addr × O)):Prop where
 go : ∀ ⦃A:Around⦄ ⦃E:Value→Shared→Prop⦄ ⦃s:Shared⦄ ⦃Q:Value→Shared→Prop⦄ ⦃g:Gh⦄ ⦃env:Env⦄ ⦃ρ:Lo⦄ ⦃us:List Value⦄,Fit K n A→A.frames=some [env]→env.frame=some env.locals→Rep K g env ρ σ s→RVs g vs us →
  (∀ g' s' e,g.le g'→Rep K g' env ρ σ' s'→ExcT g' s'.heap e T→E (.ref e) s')→wpAny (KM K) A (call f us) Q E s
theorem ExX0.assign {x:Str} {e:Expr} {p pos} {ss:List Stmt} {T:String} (h1:EvX0 K n env ρ e σ T σ') (hs:swapsWith e (some (.Name x p)) pos.line env=pure false:=by rfl) :
  ExX0 K n env ρ σ (.Assign [.Name x p] e pos::ss) T σ':=.mk fun _ _ _ _ _ F R h =>
 wpAny_execs_cons (wpAny_Assign_Name (h1.go F R fun g' s' e l R' X=>h g' s' ρ e l R' X) hs)
theorem EvX0.callB {x:Str} {p pos:Pos} {es:List Expr} {f:Value} {vs:List V} {T:String} (hk:env.kindOf x=some .globalImplicit) (hx:K.mg x=none) (hb:K.mb x=some f) (C:Callee K f) (h2:Evs K n env ρ es σ vs σ₁) (h3:FnX0 K n f vs σ₁ T σ₂) 
  (hd:(x==("__debug__" : Str))=false:=by kernel_rfl) (hp:(starEach es env).any (·.1)=false:=by rfl):EvX0 K n env ρ (.Call (.Name x p) es [] pos) σ T σ₂:=.mk fun A E s Q g F R h =>
 wpAny_Call_ofName (Ev.bui hk hx hb hd F R fun _ _ _ l1 R1 r1=>by
  simp only [RV,RW] at r1; subst r1
  refine za6 C (by rw [za5]; exact hp) ?_
  exact h2 F R1 fun g2 s2 us l2 R2 r2=>⟨R2.keeps,by rw [List.nil_append]; exact h3.go F R2 r2 fun g3 s3 u l3 R3 r3=>h _ _ _ ((l1.trans l2).trans l3) R3 r3⟩)
end
end Mine
namespace Mine
section
variable {K:Kc} {n m:Nat} {env cenv ce:Env} {ρ ρ' ρ₁ ρ₂ ρ₃ ρ₀ ρc:Lo} {σ σ' σ₀ σ₁ σ₂ σ₃:List (Addr × O)} {g g₀ g₁ g₂ g₄:Gh} {s s₀ s' s₄:Shared} {A:Around} {items:List W}
theorem Rep.lose (R:Rep K g env ρ σ s) {a:Addr} {h':Heap} {tk:Nat} (ha:a∉σ.map (·.1)) (hs : ∀ b,g.tag b≠some (.obj a)→h'.get? b=s.heap.get? b)
  (hl : ∀ b,g.tag b=some (.obj a)→∃ o,h'.get? b=some o):Rep K g env ρ σ { s with heap:=h',toks:=tk }:=by
 have ne : ∀ b t,g.tag b=some t→t ≠ .obj a→h'.get? b=s.heap.get? b:=fun b t hb ht=>hs b (by rw [hb]; intro e; cases e; exact ht rfl)
 refine obEE R.sh fun h t e=>?_
 refine ⟨R.G,R.hd,?_,fun b t hb=>?_,fun b hb=>?_,R.gnd,?_,fun b o' m=>?_,R.nd⟩
 ·subst e; exact ⟨h',tk,rfl⟩
 ·show ∃ o,h'.get? b=some o
  by_cases e:t = .obj a
  ·subst e; exact hl b hb
  ·rw [ne b t hb e]; exact R.live b t hb
 ·rcases hb with hb | hb
  ·exact (ne b _ hb (by simp)).trans (R.fix b (.inl hb))
  ·exact (ne b _ hb (by simp)).trans (R.fix b (.inr hb))
 ·exact R.fr.move (fun b e=>⟨e,rfl⟩) (fun b e=>⟨e,ne b _ e (by simp)⟩) (fun b e=>⟨e,ne b _ e (by simp)⟩)
 ·have hba:b≠a:=fun e=>ha (e ▸ List.mem_map_of_mem (f:=Prod.fst) m)
  exact (R.ob b o' m).move (fun c hc=>⟨hc,rfl⟩) fun c hc=>⟨hc,ne c _ hc (by intro e; cases e; exact hba rfl)⟩
theorem FnX0.next {a:Addr} (hd:K.hd=none) (hs:DelO σ a (.iter []) σ'):FnX0 K n (.builtin "next") [.ref a] σ "StopIteration" σ':=.mk fun A E s Q g env ρ us F R hu h=>by
 simp only [RVs,RV] at hu
 (refine zb2 hu fun u r zq2 zq3 zq4=>?_; subst zq2; subst zq3; subst zq4)
 refine zc7 hs.split fun S1 S2 e1 e2=>?_
 have hm:(a,O.iter [])∈σ:=by rw [e1]; simp
 refine zm2 (R.ob a (.iter []) hm) fun ht l i vs hit hl hseq hi hw=>?_
 have hx:vs[i]? = none:=by
  simp only [RWs] at hw
  have:=List.drop_eq_nil_iff.mp hw
  simpa using this
 have hlist:s.heap.IsList l vs:=by
  obtain ⟨m,hm⟩:=hseq
  exact isL (n:=m) (by rw [R.fix l (.inl hl),hm])
 have hh:A.handled=none:=by rw [F.hand,hd]
 refine Calls.call_function_entry (by decide +kernel) (by decide +kernel) kdk_entry_next (kdk_args_next _) ?_
 unfold Builtin.«next»
 refine wpAny_bind (m:=someArgs "next" 1 2 _) (wpAny_of_eq (a:=[Value.ref a]) (by first | rfl | kernel_rfl!) ?_)
 dsimp only
 refine wpAny_bind (wpAny_specialOf (name:=Str.ofString "__next__") hit.typeIs slot_listiter_next.lookup ?_)
 refine wpAny_ite_split (fun hab=>absurd hab (by decide)) (fun _=>?_)
 refine zd4 (id hit) fun o ho hc hdd=>?_
 refine zz5 (id hlist) fun ol hol _ nl hdl=>?_
 refine wpAny_bind (wpAny_callSpecial?_slot (name:=Str.ofString "__next__") hit.typeIs slot_listiter_next
  (wpAny_call_entry slot_listiter_next hit.typeIs entry_listiter_next ?_ (args_listiter_next _)))
 show wpAny _ _ (field (.ref a) 0 >>= _) _ _ s
 refine wpAny_bind (wpAny_field ho hdd (x:=.ref l) rfl ?_)
 show wpAny _ _ (if (Value.ref l==Value.none)=true then _ else _) _ _ s
 rw [if_neg (show ¬ ((Value.ref l==Value.none)=true) from Bool.false_ne_true)]
 show wpAny _ _ (field (.ref a) 1 >>= _) _ _ s
 refine wpAny_bind (wpAny_field ho hdd (x:=.int i 0) rfl ?_)
 show wpAny _ _ (seqItems? (.ref l) >>= _) _ _ s
 refine wpAny_bind (wpAny_seqItems hol hdl ?_)
 simp only [Int.toNat_natCast,hx]
 refine wpAny_bind (wpAny_rule (wpAny_bind (wpAny_setField ho hdd (by simp) ?_)))
 show wpAny _ _ (do raiseNew (← newExc (.type "StopIteration") [])) _ _ _
 have hs':Heap.SameBut a s.heap (s.heap.update a (Obj.mapFields (·.setIfInBounds 0 .none))):=Heap.SameBut.update ..
 have R':Rep K g env ρ σ' { s with heap:=s.heap.update a (Obj.mapFields (·.setIfInBounds 0 .none)),toks:=s.toks }:=by
  have hnd:=R.nd
  rw [e1,List.map_append,List.map_cons] at hnd
  have hnd':=List.nodup_append.mp hnd
  refine (R.less (Less.refl ρ) (σ':=σ') ?_).lose (a:=a) ?_ (fun b hb=>hs'.2 b fun e=>by subst e; exact hb ht) (fun b hb=>?_)
  ·rw [e1,e2]; exact List.Sublist.append_left (List.sublist_cons_self _ _) _
  ·rw [e2,List.map_append]
   intro hm'
   rcases List.mem_append.mp hm' with q | q
   ·exact hnd'.2.2 _ q _ List.mem_cons_self rfl
   ·exact (List.nodup_cons.mp hnd'.2.1).1 q
  ·by_cases e:b=a
   ·subst e; exact ⟨_,Heap.get?_update_self _ ho (Obj.isFreed_of_fields (Obj.data_mapFields hdd _))⟩
   ·obtain ⟨o2,ho2⟩:=R.live b _ hb
    exact ⟨o2,(hs'.2 b e).trans ho2⟩
 refine zW5 (s:={ s with heap:=s.heap.update a (Obj.mapFields (·.setIfInBounds 0 .none)) }) hh fun h' e oe vs' hk hn he hcls hdat h1 h2=>?_
 have hte:g.tag e=none:=by
  cases q:g.tag e with
  | none=>rfl
  | some t =>
   obtain ⟨o',ho'⟩:=R'.live e t q
   rw [ho'] at hn; cases hn
 exact h g _ e (.refl _) (R'.heap (tk:=s.toks) fun b t o _ hb=>hk b o hb) ⟨hte,oe,vs',he,hcls,hdat,h1,h2⟩
theorem FnX.of {a:Addr} {fd:FuncData} {ps:List Str} {body:List Stmt} {vs:List V} {T:String} (FA:FnAt K a fd) (hbody:fd.body = .stmts body)
  (hbind : ∀ us:List Value,us.length=vs.length→bindArgs fd ⟨us,[]⟩=pure (ps.zip us)) (P:Pars fd.scope ps vs ρ)
  (hb : ∀ env:Env,env.scope=fd.scope→ExY K n env ρ σ body T σ')
  (hco:fd.scope.isCoroutine=false:=by rfl) (hgen:fd.scope.isGenerator=false:=by rfl) (hk:fd.scope.kind = .function:=by rfl):FnX K (n+1) (.ref a) vs σ T σ':=.mk fun A E s Q g env ρ₀ us F hfs hfe R hu h=>by
 refine obEA FA.get fun oa hoa hda=>?_
 have hz:=hu.length
 have hp:=P.len
 refine wpAny_call (codeAny_call_cells (fd:=fd) (body:=body) (binds:=ps.zip us) (by have:=F.depth; show A.depth<1000; lia) (R.keeps _ _ hoa) hda (R.G.lim.keeps R.keeps) (FA.code.keeps R.keeps) hbody
  (hbind us hz) FA.clo (fun x hx=>?_) (fun s₁ X=>?_) hco hgen hk)
 ·rcases P.pk x.1 (List.of_mem_zip hx).1 with q | q
  ·exact .inl q
  ·exact .inr ⟨q,zb0 _ _ _ _ q⟩
 ·have hnames:((ps.zip us).map (·.1))=ps:=List.map_fst_zip (by lia)
  have hndz:((ps.zip us).map (·.1)).Nodup:=by rw [hnames]; exact P.pnd
  have hfce:(callEnvC fd s.heap.objs.size a).frame=some (callEnvC fd s.heap.objs.size a).locals:=rfl
  generalize hce:callEnvC fd s.heap.objs.size a=ce at X hfce ⊢
  have hsc:ce.scope=fd.scope:=by rw [← hce]; rfl
  have hcl:ce.cells=cellsFrom (s.heap.objs.size+1) fd.scope.names []:=by rw [← hce]; rfl
  let fr:Addr→Bool:=fun b=>decide (b=ce.locals)||ce.cells.any fun c=>decide (c.2=b)&&decide (ce.cells.lookup c.1=some c.2)
  have hko : ∀ x,ce.kindOf x=fd.scope.names.lookup x:=fun x=>by rw [Env.kindOf,hsc]
  have hvals : ∀ x ov,(x,ov)∈ρ.v→∀ w:Value,True→(ov=none∨∃ u,(x,u)∈ps.zip us∧OV (g.swap s.heap fr) ov (some u)):=by
   intro x ov hx _ _
   cases ov with
   | none=>exact .inl rfl
   | some v' =>
    refine obEA (P.val x v' hx) fun i h1 h2=>?_
    refine obEA (hu.get i h2) fun u h3 h4=>?_
    exact .inr ⟨u,zg3 h1 h3,h4.mono (g.swap_le _ _).leB⟩
  have fresh : ∀ b,fr b=true→g.tag b=none:=by
   intro b hb
   have hge:s.heap.objs.size≤b:=by
    simp only [fr,Bool.or_eq_true,Bool.and_eq_true,decide_eq_true_eq,List.any_eq_true] at hb
    rcases hb with rfl | ⟨c,hc,rfl,hlk⟩
    ·exact X.toInCall.fresh
    ·have:=X.above c.1 c.2 hc
     have:=X.toInCall.fresh
     exact Nat.le_of_lt (Nat.lt_of_le_of_lt ‹_› ‹ce.locals<c.2›)
   cases e:g.tag b with
   | none=>rfl
   | some t=>exact absurd (R.lt e) (Nat.not_lt.mpr hge)
  have hfr : ∀ b,fr b=true→(g.swap s.heap fr).tag b=some .frame:=fun b hb=>by simp [Gh.swap,fresh b hb,hb]
  have hcellfr : ∀ x c,ce.cells.lookup x=some c→fr c=true:=fun x c hc=>by
   simp only [fr,Bool.or_eq_true,Bool.and_eq_true,decide_eq_true_eq,List.any_eq_true]
   exact .inr ⟨(x,c),mem_of_lookup hc,rfl,hc⟩
  have FR:FrameAt (g.swap s.heap fr) s₁.heap ce ρ:={
   kind:=by rw [hsc]; exact hk
   glob:=by rw [← hce]; exact FA.glob
   bui:=by rw [← hce]; exact FA.bui
   nd:=P.nd
   lt:=hfr _ (by simp [fr])
   inj:=fun x y c h1 h2=>name_of_addr X.apart (mem_of_lookup h1) (mem_of_lookup h2)
   nel:=fun x c h1=>Nat.ne_of_gt (X.above x c (mem_of_lookup h1))
   var:=by
    refine ⟨_,X.toInCall.ns,fun x ov hx=>?_⟩
    rcases P.kind x ov hx with q | q
    ·refine .inl ⟨by rw [hko]; exact q,?_⟩
     rcases hvals x ov hx .none trivial with rfl | ⟨u,h1,h2⟩
     ·trivial
     ·rw [zo6 _ _ x u hndz h1 (by rw [hko]; exact q)]; exact h2
    ·have hs:((ce.cells).lookup x).isSome=true:=by rw [hcl]; exact zb0 _ _ _ _ q
     obtain ⟨c,hc⟩:=Option.isSome_iff_exists.mp hs
     refine .inr ⟨by rw [hko]; exact q,c,_,hc,hfr c (hcellfr x c hc),X.cell x c hc,?_⟩
     rcases hvals x ov hx .none trivial with rfl | ⟨u,h1,h2⟩
     ·trivial
     ·rw [zo7 _ _ x u hndz h1 (by rw [hko]; exact q)]; exact h2
   cap:=fun x v hx=>by rw [P.cap] at hx; cases hx }
  (refine obEE X.toInCall.same fun h1 tk zq2=>?_; subst zq2)
  have R1:=R.swapFrame (tk:=tk) fr X.toInCall.keep (fun b hb=>by
   simp only [fr,Bool.or_eq_true,Bool.and_eq_true,decide_eq_true_eq,List.any_eq_true] at hb
   rcases hb with rfl | ⟨c,hc,rfl,hlk⟩
   ·refine zd9 X.toInCall.ns fun o _ _ e _=>?_; exact ⟨o,e⟩
   ·refine obEA (X.cell c.1 c.2 hlk) fun o e _=>?_
    exact ⟨o,e⟩) FR
  have F1:Fit K n (A.deeper ce):=⟨by have:=F.depth; show A.depth+1+10*n≤900; lia,by have:=F.units; show A.units+3+200*n≤9000; lia,F.hand⟩
  have hfsd:(A.deeper ce).frames=some [ce,env]:=Around.frames_deeper hfs
  have hff0 : ∀ g2 s2 ρ2 σ2,(g.swap s.heap fr).le g2→Rep K g2 ce ρ2 σ2 s2→s2.heap.FunFrames zz6 [ce,env]:=fun g2 s2 ρ2 σ2 l2 R2=>by
   (have zq:=R.backFrame l2 R2; have R3:=zq.1)
   refine obEA R3.fr.var fun mL hnL _=>?_
   refine obEA R2.fr.var fun mC hnC _=>?_
   exact zA8 fun c hc=>by
    rcases List.mem_cons.mp hc with rfl | hc
    ·exact ⟨by rw [hsc]; exact hk,_,_,hfce,hnC⟩
    ·rw [List.mem_singleton.mp hc]; exact ⟨R.fr.kind,_,_,hfe,hnL⟩
  refine (hb ce hsc).go F1 hfsd hfce hff0 R1 fun g2 s2 ρ2 e l2 R2 X2=>?_
  (have zq:=R.backFrame l2 R2; have R3:=zq.1; have l3:=zq.2.1; have lB:=zq.2.2)
  refine zi4 X2.obj fun oe ws he hcls hdat hw1 hw2=>?_
  have hcl':g.tag ce.locals=none:=fresh _ (by simp [fr])
  have hsz:=(Array.getElem?_eq_some_iff.mp hw1).1
  have hte:(g.back g2).tag e=none:=by
   cases q:(g.back g2).tag e with
   | none=>rfl
   | some t =>
    have hg2:=X2.tag
    simp only [Gh.back] at q
    split at q
    ·rename_i hq
     have:=(l2.tmp e (by
      obtain ⟨o1,ho1⟩:=R.live e _ hq
      simp [Gh.swap,hq])).1
     rw [this] at hg2; cases hg2
    ·rw [hg2] at q; cases q
  have hLc:(g.back g2).tag ce.locals=none:=by
   have:g2.tag ce.locals=some .frame:=R2.fr.lt
   simp [Gh.back,hcl',this]
  have fin : ∀ h' tb ot ts,(∀ b o,b≠e→b∉[ce,env].filterMap (·.frame)→s2.heap.get? b=some o→h'.get? b=some o)→(∀ b o,b≠e→s2.heap.get? b=some o→∃ sl,h'.get? b=some { o with slots:=sl }) →
    h'.get? e=some (oe.mapFields (·.setIfInBounds 1 (.ref tb)))→s2.heap.get? tb=none→tb≠e→h'.get? tb=some ot→ot.data = .fields ts→ts[3]? = some (rawInt ce.locals) →
    ∀ (A':Around) (E':Value→Shared→Prop),wpAny (KM K) A' (setFlight (.ref e) none) (fun _=>E (.ref e)) E' { s2 with heap:=h' }:=fun h' tb ot ts k1 k2 k3 k4 k5 k6 k7 k8 A' E'=>by
   have hd3:=Obj.data_mapFields hdat (·.setIfInBounds 1 (Value.ref tb))
   refine zF1 (e:=e) (tb:=tb) (s:={ s2 with heap:=h' }) k3 hd3 (by simp [hsz]) k6 k7 (Array.getElem?_eq_some_iff.mp k8).1 fun h'' ot' ts' q1 q2 q3 q4=>?_
   have htb:(g.back g2).tag tb=none:=by
    cases q:(g.back g2).tag tb with
    | none=>rfl
    | some t =>
     obtain ⟨o1,ho1⟩:=R3.live tb t q
     rw [ho1] at k4; cases k4
   have notE : ∀ b t,(g.back g2).tag b=some t→b≠e∧b≠tb∧b≠ce.locals:=by
    intro b t hb
    refine ⟨?_,?_,?_⟩
    ·rintro rfl; rw [hte] at hb; cases hb
    ·rintro rfl; rw [htb] at hb; cases hb
    ·rintro rfl; rw [hLc] at hb; cases hb
   have R4:=R3.slots (h':=h'') (fun b t o hb hne ho=>by
     (have zq:=notE b t hb; have n1:=zq.1; have n2:=zq.2.1; have n3:=zq.2.2)
     rw [q1 b n2]
     refine k1 b o n1 ?_ ho
     simp [hfce,hfe,n3,hne])
    (fun o ho=>by
     (have zq:=notE env.locals _ R3.fr.lt; have n1:=zq.1; have n2:=zq.2.1; have n3:=zq.2.2)
     rw [q1 _ n2]
     exact k2 _ o n1 ho)
   refine h _ _ e l3 R4 ⟨hte,_,_,tb,ot',ts',(q1 e (Ne.symm k5)).trans k3,by rw [Obj.cls_mapFields]; exact hcls,hd3,by simp [hsz],?_,k5,htb,q2,q3,q4⟩
   rw [Array.getElem?_setIfInBounds_ne (by decide)]; exact hw2
  refine ⟨?_,fun h' N=>?_⟩
  ·unfold leaving noteFrame
   simp only [hfce]
   refine wpAny_bind (wpAny_bind (wpAny_field he hdat hw1 ?_))
   rw [if_neg (by decide)]
   exact zw8 hfsd (hff0 g2 s2 ρ2 _ l2 R2) hfce he hdat hsz fun h' tb ot ts k1 k2 k3 k4 k5 k6 k7 k8=>fin h' tb ot ts k1 k2 k3 k4 k5 k6 k7 k8 _ _
  ·refine zb9 N.at' fun oe' vs' tb ot ts k0 k0' k1 k2 k3 k4 k5 k6 k7 k8=>?_
   rw [he] at k0
   cases k0
   unfold leaving noteFrame
   simp only [hfce]
   refine wpAny_bind (wpAny_bind (wpAny_field (x:=.ref tb) k3 (Obj.data_mapFields hdat (·.setIfInBounds 1 (Value.ref tb))) (by simp [hsz]) ?_))
   rw [if_pos (show (Value.ref tb != Value.none)=true from rfl)]
   refine wpAny_bind (wpAny_field k6 k7 k8 ?_)
   rw [if_pos (by simp)]
   exact wpAny_pure (fin h' tb ot ts k1 k2 k3 k4 k5 k6 k7 k8 _ _)
noncomputable def Kc.held (K:Kc) (e:Addr):Kc:={ K with hd:=some (.ref e) }
theorem RdOk.held {fd:FuncData} {c1 c2 e:Addr} (x:RdOk K fd c1 c2):RdOk (K.held e) fd c1 c2:=⟨x.body,x.scope,x.clo,x.glob,x.bui,x.bind⟩
theorem RdOk.unheld {fd:FuncData} {c1 c2 e:Addr} (x:RdOk (K.held e) fd c1 c2):RdOk K fd c1 c2:=⟨x.body,x.scope,x.clo,x.glob,x.bui,x.bind⟩
theorem LexAt.held {h:Heap} {a e:Addr} {t full place line push} (x:LexAt K g h a t full place line push):LexAt (K.held e) g h a t full place line push :=
 ⟨x.tags,x.nd,x.inst,x.dd,x.pbz,x.pb,x.fn,x.fdict,let ⟨ob,fd,cc,e1,e2,e3,e4,e5⟩:=x.rd; ⟨ob,fd,cc,e1,e2,e3,e4.held,e5⟩,x.cell1,x.fz,x.cell2,x.place⟩
theorem LexAt.unheld {h:Heap} {a e:Addr} {t full place line push} (x:LexAt (K.held e) g h a t full place line push):LexAt K g h a t full place line push :=
 ⟨x.tags,x.nd,x.inst,x.dd,x.pbz,x.pb,x.fn,x.fdict,let ⟨ob,fd,cc,e1,e2,e3,e4,e5⟩:=x.rd; ⟨ob,fd,cc,e1,e2,e3,e4.unheld,e5⟩,x.cell1,x.fz,x.cell2,x.place⟩
theorem ObjAt.held {h:Heap} {a e:Addr} {o:O} (x:ObjAt K g h a o):ObjAt (K.held e) g h a o:=by
 cases o with
 | lex=>obtain ⟨t,x⟩:=x; exact ⟨t,x.held⟩
 | _=>exact x
theorem ObjAt.unheld {h:Heap} {a e:Addr} {o:O} (x:ObjAt (K.held e) g h a o):ObjAt K g h a o:=by
 cases o with
 | lex=>obtain ⟨t,x⟩:=x; exact ⟨t,x.unheld⟩
 | _=>exact x
theorem Rep.held (R:Rep K g env ρ σ s) {e:Addr} (h:HdOk (K.held e) g):Rep (K.held e) g env ρ σ s :=
 ⟨⟨R.G.ng,R.G.nb,R.G.lim⟩,h,R.sh,R.live,R.fix,R.gnd,R.fr,fun a o m=>(R.ob a o m).held,R.nd⟩
theorem Rep.unheld {e:Addr} (R:Rep (K.held e) g env ρ σ s) (h:K.hd=none):Rep K g env ρ σ s :=
 ⟨⟨R.G.ng,R.G.nb,R.G.lim⟩,.inl h,R.sh,R.live,R.fix,R.gnd,R.fr,fun a o m=>(R.ob a o m).unheld,R.nd⟩
structure EvX (K:Kc) (n:Nat) (env:Env) (ρ:Lo) (e:Expr) (σ:List (Addr × O)) (T:String) (σ':List (Addr × O)):Prop where
 go : ∀ ⦃A:Around⦄ ⦃E:Value→Shared→Prop⦄ ⦃s:Shared⦄ ⦃Q:Value→Shared→Prop⦄ ⦃g:Gh⦄,Fit K n A→A.frames=some [env]→env.frame=some env.locals→Rep K g env ρ σ s →
  (∀ g' s' e,g.le g'→Rep K g' env ρ σ' s'→ExcT g' s'.heap e T→E (.ref e) s')→wpAny (KM K) A (eval e env) Q E s
structure ExF (K:Kc) (n:Nat) (env:Env) (ρ:Lo) (σ:List (Addr × O)) (ss:List Stmt) (o:Out) (ρ':Lo) (σ':List (Addr × O)):Prop where
 go : ∀ ⦃A:Around⦄ ⦃E:Value→Shared→Prop⦄ ⦃s:Shared⦄ ⦃Q:Flow→Shared→Prop⦄ ⦃g:Gh⦄,Fit K n A→A.frames=some [env]→env.frame=some env.locals→Rep K g env ρ σ s →
  (∀ g' s' f,g.le g'→Rep K g' env ρ' σ' s'→RF g' o f→Q f s')→wpAny (KM K) A (execs ss env) Q E s
theorem ExF.of {ss:List Stmt} {o:Out} (h1:Ex K n env ρ σ ss o ρ' σ'):ExF K n env ρ σ ss o ρ' σ':=.mk fun _ _ _ _ _ F _ _ R h=>h1 F R h
theorem ExF.cons {st:Stmt} {ss:List Stmt} {o:Out} (h1:Ex1 K n env ρ σ st .next ρ₁ σ₁) (h2:ExF K n env ρ₁ σ₁ ss o ρ' σ'):ExF K n env ρ σ (st::ss) o ρ' σ':=.mk fun _ _ _ _ _ F hf he R h =>
 wpAny_execs_cons (h1 F R fun g1 s1 f l1 R1 r1=>by
  obtain rfl:=RF.nextE r1
  exact h2.go F hf he R1 fun g2 s2 f l2 R2 r2=>h g2 s2 f (l1.trans l2) R2 r2)
theorem ExF.assignN {x:Str} {e:Expr} {p pos} {o:O} {ss:List Stmt} {ou:Out} (h1:EvN K n env ρ e σ o σ₁) (ρ₁:Addr→Lo) (hv : ∀ a,SetV ρ x (.ref a) (ρ₁ a)) (h2 : ∀ a,ExF K n env (ρ₁ a) ((a,o)::σ₁) ss ou ρ' σ')
  (hs:swapsWith e (some (.Name x p)) pos.line env=pure false:=by rfl):ExF K n env ρ σ (.Assign [.Name x p] e pos::ss) ou ρ' σ':=.mk fun _ _ _ _ _ F hf he R h =>
 wpAny_execs_cons (wpAny_Assign_Name (h1 F R fun g1 s1 a l1 R1=>zb4 R1 (hv a) (by exact rfl) fun s2 R2=>(h2 a).go F hf he R2 fun g3 s3 f l3 R3 r3=>h _ _ _ (l1.trans l3) R3 r3) hs)
theorem EvX.callG {x:Str} {p pos:Pos} {es:List Expr} {f:Value} {vs:List V} {T:String} (hk:env.kindOf x=some .globalImplicit) (hf:K.mg x=some f) (C:Callee K f) (h2:Evs K n env ρ es σ vs σ₁) (h3:FnX K n f vs σ₁ T σ₂) 
  (hd:(x==("__debug__" : Str))=false:=by kernel_rfl) (hp:(starEach es env).any (·.1)=false:=by rfl):EvX K n env ρ (.Call (.Name x p) es [] pos) σ T σ₂:=.mk fun A E s Q g F hfs hfe R h =>
 wpAny_Call_ofName (Ev.glob (w:=.glob f) (u:=f) hk hf (fun g _=>by simp only [RW]) hd F R fun _ _ _ l1 R1 r1=>by
  simp only [RV,RW] at r1; subst r1
  refine za6 C (by rw [za5]; exact hp) ?_
  exact h2 F R1 fun g2 s2 us l2 R2 r2=>⟨R2.keeps,by rw [List.nil_append]; exact h3.go F hfs hfe R2 r2 fun g3 s3 u l3 R3 r3=>h _ _ _ ((l1.trans l2).trans l3) R3 r3⟩)
theorem zk2:isSubtype (.type "StopIteration") (.type "BaseException")=pure true:=by rfl
theorem zs4:isSubtype (.type ((Manifest.find? "StopIteration").elim "type" fun x=>x.metatype)) (.type "tuple")=pure false:=by rfl
theorem ExF.tryStop {ecall:Expr} {pe tp hp pos:Pos} {st2 b₀:Stmt} {suite ss:List Stmt} {o:Out} (hd:K.hd=none) (h1:EvX K n env ρ ecall σ "StopIteration" σ₁)
  (hk:env.kindOf ("StopIteration" : Str)=some .globalImplicit) (hx:K.mg ("StopIteration" : Str)=none) (hb:K.mb ("StopIteration" : Str)=some (.type "StopIteration"))
  (h2 : ∀ e,Ex (K.held e) n env ρ σ₁ (b₀::suite) .next ρ₁ σ₂) (h3:ExF K n env ρ₁ σ₂ ss o ρ' σ') (hs:swapsWith ecall none pe.line env=pure false:=by rfl) :
  ExF K n env ρ σ (.Try [.Expr ecall pe,st2] [.ExceptHandler (some (.Name ("StopIteration" : Str) tp)) none (b₀::suite) hp] [] [] pos::ss) o ρ' σ':=.mk fun A E s Q g F hfs hfe R h=>by
 refine wpAny_execs_cons (wpAny_Try_except (wpAny_execs_cons (wpAny_Expr_any (h1.go F hfs hfe R fun g1 s1 e l1 R1 X1=>?_) (by unfold interactive; rw [R.fr.kind]; rfl) hs)))
 refine zb9 X1.obj fun oe vs tb ot ts he hcls hdat hv1 hv2 htbe htbt htb hdt h3t=>?_
 have hsz:=(Array.getElem?_eq_some_iff.mp hv1).1
 have hsz3:=(Array.getElem?_eq_some_iff.mp h3t).1
 refine obEA R1.fr.var fun mL hnL _=>?_
 have hnL':=hnL
 refine zE1 hnL' fun oL esL epL hoL hdL _=>?_
 have hLe:e≠env.locals:=by rintro rfl; rw [hoL] at he; cases he; rw [hdL] at hdat; cases hdat
 have hLt:tb≠env.locals:=by rintro rfl; rw [hoL] at htb; cases htb; rw [hdL] at hdt; cases hdt
 unfold noteFrame
 simp only [hfe]
 refine wpAny_bind (wpAny_field he hdat hv1 ?_)
 rw [if_pos (show (Value.ref tb != Value.none)=true from by simp)]
 refine wpAny_bind (wpAny_field htb hdt h3t ?_)
 rw [if_neg (show ¬ ((Value.none==rawInt env.locals)=true) from by simp [rawInt])]
 refine wpAny_bind (wpAny_setField htb hdt hsz3 ?_)
 have oth : ∀ b,b≠tb→(s1.heap.update tb (Obj.mapFields (·.setIfInBounds 3 Value.none))).get? b=s1.heap.get? b:=fun b hb=>Heap.get?_update_other _ _ (Ne.symm hb)
 have hff:(s1.heap.update tb (Obj.mapFields (·.setIfInBounds 3 Value.none))).FunFrames zz6 [env]:=by
  have:=zA8 (s:={ s1 with heap:=s1.heap.update tb (Obj.mapFields (·.setIfInBounds 3 Value.none)) }) (l:=[env]) fun c hc=>by
   rw [List.mem_singleton.mp hc]
   exact ⟨R.fr.kind,_,_,hfe,Ns.eqAt hnL (oth _ (Ne.symm hLt))⟩
  exact this
 refine zw8 (s:={ s1 with heap:=s1.heap.update tb (Obj.mapFields (·.setIfInBounds 3 Value.none)) }) hfs hff hfe ((oth e (Ne.symm htbe)).trans he) hdat hsz fun h' tb' ot' ts' k1 k2 k3 k4 k5 k6 k7 k8=>?_
 have hd3:=Obj.data_mapFields hdat (·.setIfInBounds 1 (Value.ref tb'))
 have htb2:tb'≠tb:=by
  rintro rfl
  have:=Heap.get?_update_self (Obj.mapFields (·.setIfInBounds 3 Value.none)) htb (Obj.isFreed_of_fields (Obj.data_mapFields hdt _))
  rw [show ({ s1 with heap:=s1.heap.update tb' (Obj.mapFields (·.setIfInBounds 3 Value.none)) }:Shared).heap.get? tb'=_ from this] at k4
  cases k4
 refine zF1 (e:=e) (tb:=tb') (s:={ s1 with heap:=h' }) k3 hd3 (by simp [hsz]) k6 k7 (Array.getElem?_eq_some_iff.mp k8).1 fun h2' ot2 ts2 q1 q2 q3 q4=>?_
 have htb't:g1.tag tb'=none:=by
  cases q:g1.tag tb' with
  | none=>rfl
  | some t =>
   obtain ⟨o1,ho1⟩:=R1.live tb' t q
   have:s1.heap.get? tb'=none:=by
    have:=k4
    rw [show ({ s1 with heap:=s1.heap.update tb (Obj.mapFields (·.setIfInBounds 3 Value.none)) }:Shared).heap.get? tb'=s1.heap.get? tb' from oth tb' htb2] at this
    exact this
   rw [ho1] at this; cases this
 have notE : ∀ b t,g1.tag b=some t→b≠e∧b≠tb∧b≠tb':=by
  intro b t hb
  refine ⟨?_,?_,?_⟩
  ·rintro rfl; rw [X1.tag] at hb; cases hb
  ·rintro rfl; rw [htbt] at hb; cases hb
  ·rintro rfl; rw [htb't] at hb; cases hb
 have R2:=R1.slots (h':=h2') (fun b t o hb hne ho=>by
   (have zq:=notE b t hb; have n1:=zq.1; have n2:=zq.2.1; have n3:=zq.2.2)
   rw [q1 b n3]
   refine k1 b o n1 ?_ ((oth b n2).trans ho)
   simp [hfe,hne])
  (fun o ho=>by
   (have zq:=notE env.locals _ R1.fr.lt; have n1:=zq.1; have n2:=zq.2.1; have n3:=zq.2.2)
   rw [q1 _ n3]
   exact k2 _ o n1 ((oth _ n2).trans ho))
 have he2:h2'.get? e=some (oe.mapFields (·.setIfInBounds 1 (.ref tb'))):=(q1 e (Ne.symm k5)).trans k3
 have R3:=R2.tagAs (t:=.tmp) he2 X1.tag
 have l3:g1.le (g1.set e (some .tmp) (oe.mapFields (·.setIfInBounds 1 (.ref tb')))):=Gh.le_set X1.tag
 have hO:HdOk (K.held e) (g1.set e (some .tmp) (oe.mapFields (·.setIfInBounds 1 (.ref tb')))):=by
  refine .inr ⟨e,vs.setIfInBounds 1 (.ref tb'),rfl,(g1.set_self _ _ _).1,by rw [(g1.set_self _ _ _).2]; exact hd3,?_⟩
  rw [Array.getElem?_setIfInBounds_ne (by decide)]; exact hv2
 have R4:=R3.held hO
 have F4:Fit (K.held e) n (A.mark (some (.ref e))):=⟨F.depth,F.units,rfl⟩
 refine wpAny_handleBy_builtin (X := "StopIteration") (T := "StopIteration") (b:=true) zk2 zs4 isSubtype_stop ?_
 refine Calls.Name_function_global R4.fr.kind hk (Calls.loadGlobal_builtin (by rw [R4.fr.glob]; exact R4.G.ng.keeps R4.keeps) hx (by rw [R4.fr.bui]; exact R4.G.nb.keeps R4.keeps) hb ⟨rfl,⟨_,he2,by rw [Obj.cls_mapFields]; exact hcls⟩,?_⟩) (by decide +kernel)
 rw [if_pos rfl]
 refine zF1 (e:=e) (tb:=tb') (s:={ s1 with heap:=h2' }) he2 hd3 (by simp [hsz]) q2 q3 (Array.getElem?_eq_some_iff.mp q4).1 fun h3' ot3 ts3 w1 w2 w3 w4=>?_
 have R5:Rep (K.held e) (g1.set e (some .tmp) (oe.mapFields (·.setIfInBounds 1 (.ref tb')))) env ρ σ₁ { s1 with heap:=h3' }:=R4.heap (tk:=s1.toks) fun b t o hb ho=>by
  have:b≠tb':=by
   rintro rfl
   rw [(g1.set_ne _ _ k5).1,htb't] at hb; cases hb
  rw [w1 b this]; exact ho
 refine h2 e F4 R5 fun g6 s6 f l6 R6 r6=>?_
 obtain rfl:=RF.nextE r6
 exact h3.go F hfs hfe (R6.unheld hd) fun g7 s7 f l7 R7 r7=>h g7 s7 f (((l1.trans l3).trans l6).trans l7) R7 r7
end
end Mine
namespace Mine
open PySem.F
theorem zs6:PlainAttrs "re.Pattern" :=
 ⟨⟨"object.__getattribute__",by rw [typeLookup_type,builtinLookup_eq_fast]; kernel_rfl,by decide +kernel⟩,by rw [typeLookup_type,builtinLookup_eq_fast]; kernel_rfl⟩
theorem slot_pat_sub:Slot "re.Pattern" "sub" "re.Pattern.sub" :=
 .of (owner := "re.Pattern") (n := "sub") (by rw [typeLookup_type,builtinLookup_eq_fast]; kernel_rfl) (by decide +kernel) (by decide +kernel) (by decide +kernel)
  (by first | exact .inl (by decide +kernel) | exact .inr (by decide +kernel)) (by rw [isSubtype_type]; kernel_rfl)
theorem zx9:typeOf (.builtin "re.Pattern.sub")=pure (.type "method_descriptor"):=by show builtinType _=_; rw [builtinType_eq_fast]; kernel_rfl
theorem zw7:entryFor table "re.Pattern.sub" = some Builtin.«re.Pattern.sub» := entryFor_of_tree (by kernel_rfl)
theorem zj5:entryFor table "re.Pattern.sub.loop" = some Builtin.«re.Pattern.sub.loop» := entryFor_of_tree (by kernel_rfl)
theorem yc8:Manifest.signature? "re.Pattern.sub" = some ⟨.keywords,"Pattern.sub","sub",.self,[⟨"repl",.posOrKw,true⟩,⟨"string",.posOrKw,true⟩,⟨"count",.posOrKw,false⟩]⟩:=by
 first | decide +kernel | kernel_rfl | rfl
end Mine
namespace Mine
noncomputable def rc1:Array Nat := #[14,4,0,1,1,6,1,16,46,1]
noncomputable def rc2:Array Nat := #[14,9,4,1,2,16,10,16,13,0,7,7,16,13,16,10,15,18,5,16,10,15,13,11,16,13,5,5,0,16,10,1,15,2,0,1]
noncomputable def Goes (n:Nat) (m m':Sre.M):Prop:=∀ k,Sre.M.runFor (n+k) m=Sre.M.runFor k m'
theorem Goes.trans {a b:Nat} {m m' m'':Sre.M} (x:Goes a m m') (y:Goes b m' m''):Goes (a+b) m m'':=fun k=>by
 rw [Nat.add_assoc,x,y]
theorem Goes.step {m:Sre.M} (h:m.outcome=none):Goes 1 m m.step:=fun k=>by
 rw [Nat.add_comm 1 k]
 show (if m.outcome.isSome then m else Sre.M.runFor k m.step)=_
 rw [h]; rfl
theorem zg1 {m:Sre.M} (h:m.outcome.isSome=true) : ∀ k,Sre.M.runFor k m=m
 | 0=>rfl
 | k+1=>by
  show (if m.outcome.isSome then m else Sre.M.runFor k m.step)=m
  rw [h]; rfl
noncomputable def zl4 (m:Sre.M) (o:Option Sre.Op) : { r:Sre.M // Sre.ops[m.code.getD m.pc 0]? = o→m.exec=r }:=by
 refine ⟨?r,fun h=>?_⟩
 rotate_left
 unfold Sre.M.exec Sre.M.word
 rw [Nat.add_zero,h]
section
variable (m:Sre.M) (sn:Sre.Seen)
theorem yl3 (c:Nat) (h0:m.code.getD m.pc 0=16) (h1:m.code.getD (m.pc+1) 0=c) (hp:m.pos<m.lim) (ht:m.text.getD m.pos 0=c) :
  m.exec = { m with seen:=m.seen.add 16,pc:=m.pc+2,pos:=m.pos+1 }:=by
 have hop:Sre.ops[16]? = some .LITERAL:=rfl
 refine ((zl4 m (some .LITERAL)).2 (by rw [h0]; rfl)).trans ?_
 dsimp only [zl4]
 rw [h0]
 rw [if_neg (by lia)]
 have ha:Sre.accepts m.code m.pc (m.text.getD m.pos 0) (m.seen.add 16) = .ok (true,m.seen.add 16):=by
  unfold Sre.accepts
  rw [h0,hop,h1,ht]
  simp
 have hw:Sre.itemWidth m.code m.pc=2:=by
  unfold Sre.itemWidth
  rw [h0,hop]
 rw [ha,hw]
theorem zT2 (c:Nat) (h0:m.code.getD m.pc 0=16) (h1:m.code.getD (m.pc+1) 0=c) (hp:m.pos<m.lim→m.text.getD m.pos 0≠c) :
  m.exec = { m with seen:=m.seen.add 16,answer:=some false }:=by
 have hop:Sre.ops[16]? = some .LITERAL:=rfl
 refine ((zl4 m (some .LITERAL)).2 (by rw [h0]; rfl)).trans ?_
 dsimp only [zl4]
 rw [h0]
 by_cases hq:m.pos<m.lim
 ·rw [if_neg (by lia)]
  have ha:Sre.accepts m.code m.pc (m.text.getD m.pos 0) (m.seen.add 16) = .ok (false,m.seen.add 16):=by
   unfold Sre.accepts
   rw [h0,hop,h1]
   have:=hp hq
   have e:(m.text.getD m.pos 0==c)=false:=by simpa using this
   show Except.ok (m.text.getD m.pos 0==c,_)=_
   rw [e]
  rw [ha]; rfl
 ·rw [if_pos (by exact Nat.le_of_not_lt ‹_›)]; rfl
theorem ex_at (y:Bool) (h0:m.code.getD m.pc 0=6) (h1:m.code.getD (m.pc+1) 0=1) (ha:(decide (m.pos=0)||decide (m.text.getD (m.pos - 1) 0=10))=y) :
  m.exec=if y then { m with seen:=(m.seen.add 6).add 44,pc:=m.pc+2 } else { m with seen:=(m.seen.add 6).add 44,answer:=some false }:=by
 have hop:Sre.ops[6]? = some .AT:=rfl
 refine ((zl4 m (some .AT)).2 (by rw [h0]; rfl)).trans ?_
 dsimp only [zl4]
 rw [h0]
 rw [h1]
 unfold Sre.M.isAt
 dsimp only
 have e:(m.pos==0||m.text.getD (m.pos - 1) 0==10)=y:=by
  rw [← ha]; congr 1
 rw [e]
 cases y <;> rfl
theorem yf9 (h0:m.code.getD m.pc 0=1) (hw:m.wholeText=false) (hm:m.mustAdvance=false) :
  m.exec = { m with seen:=m.seen.add 1,handed:=m.pos,answer:=some true }:=by
 have hop:Sre.ops[1]? = some .SUCCESS:=rfl
 refine ((zl4 m (some .SUCCESS)).2 (by rw [h0]; rfl)).trans ?_
 dsimp only [zl4]
 rw [h0]
 rw [hw,hm]
 simp [Sre.M.say]
theorem yg0 (d:Nat) (h0:m.code.getD m.pc 0=15) (h1:m.code.getD (m.pc+1) 0=d) :
  m.exec = { m with seen:=m.seen.add 15,pc:=m.pc+1+d }:=by
 have hop:Sre.ops[15]? = some .JUMP:=rfl
 refine ((zl4 m (some .JUMP)).2 (by rw [h0]; rfl)).trans ?_
 dsimp only [zl4]
 rw [h0]
 rw [h1]
theorem ze8 (hp:m.pc<m.code.size) (ha:m.answer=none) (ho:m.outcome=none):m.step=m.exec:=by
 unfold Sre.M.step
 rw [ho,ha]
 simp [hp]
end
noncomputable def MK (code t:Array Nat) (s pc pos hd:Nat) (b:Bool) (fr:List Sre.Frame) (wt:Nat) (an:Option Bool) (sn:Sre.Seen) (oc:Option Sre.Outcome):Sre.M :=
 { code:=code,text:=t,lim:=t.size,start:=s,lastStart:=t.size,pc:=pc,pos:=pos,handed:=hd,outermost:=b,marks := #[],weight:=wt,frames:=fr,answer:=an,seen:=sn,outcome:=oc }
section
variable {code t:Array Nat} {s pc pos hd:Nat} {b:Bool} {fr:List Sre.Frame} {wt:Nat} {sn:Sre.Seen}
theorem zV2 (c:Nat) (hp:pc<code.size) (h0:code.getD pc 0=16) (h1:code.getD (pc+1) 0=c) (hq:pos<t.size) (ht:t.getD pos 0=c) :
  ∃ sn',Goes 1 (MK code t s pc pos hd b fr wt none sn none) (MK code t s (pc+2) (pos+1) hd b fr wt none sn' none):=by
 have g:=Goes.step (m:=MK code t s pc pos hd b fr wt none sn none) rfl
 rw [ze8 _ hp rfl rfl,yl3 _ c h0 h1 hq ht] at g
 exact ⟨_,g⟩
theorem zn0 (c:Nat) (hp:pc<code.size) (h0:code.getD pc 0=16) (h1:code.getD (pc+1) 0=c) (hq:pos<t.size→t.getD pos 0≠c) :
  ∃ sn',Goes 1 (MK code t s pc pos hd b fr wt none sn none) (MK code t s pc pos hd b fr wt (some false) sn' none):=by
 have g:=Goes.step (m:=MK code t s pc pos hd b fr wt none sn none) rfl
 rw [ze8 _ hp rfl rfl,zT2 _ c h0 h1 hq] at g
 exact ⟨_,g⟩
theorem T_at (y:Bool) (hp:pc<code.size) (h0:code.getD pc 0=6) (h1:code.getD (pc+1) 0=1) (ha:(decide (pos=0)||decide (t.getD (pos - 1) 0=10))=y) :
  ∃ sn',Goes 1 (MK code t s pc pos hd b fr wt none sn none) (if y then MK code t s (pc+2) pos hd b fr wt none sn' none else MK code t s pc pos hd b fr wt (some false) sn' none):=by
 have g:=Goes.step (m:=MK code t s pc pos hd b fr wt none sn none) rfl
 rw [ze8 _ hp rfl rfl,ex_at _ y h0 h1 ha] at g
 cases y <;> exact ⟨_,g⟩
theorem yc2 (hp:pc<code.size) (h0:code.getD pc 0=1) : ∃ sn',Goes 1 (MK code t s pc pos hd b fr wt none sn none) (MK code t s pc pos pos b fr wt (some true) sn' none):=by
 have g:=Goes.step (m:=MK code t s pc pos hd b fr wt none sn none) rfl
 rw [ze8 _ hp rfl rfl,yf9 _ h0 rfl rfl] at g
 exact ⟨_,g⟩
theorem zV3 (d:Nat) (hp:pc<code.size) (h0:code.getD pc 0=15) (h1:code.getD (pc+1) 0=d) : ∃ sn',Goes 1 (MK code t s pc pos hd b fr wt none sn none) (MK code t s (pc+1+d) pos hd b fr wt none sn' none):=by
 have g:=Goes.step (m:=MK code t s pc pos hd b fr wt none sn none) rfl
 rw [ze8 _ hp rfl rfl,yg0 _ d h0 h1] at g
 exact ⟨_,g⟩
theorem yb0 (y:Bool):Goes 1 (MK code t s pc pos hd b [] wt (some y) sn none) (MK code t s pc pos hd b [] wt (some y) sn (some (if y then .matched else .failed))):=Goes.step rfl
theorem zs2 {p q:Nat} {c:Bool}:Goes 1 (MK code t s pc pos hd b ({ wait:=.nextStart,pc:=p,pos:=q,outermost:=c }::fr) (wt+1) (some true) sn none) (MK code t s p q hd c fr wt (some true) sn none):=Goes.step rfl
theorem zs3 {p q:Nat} {c:Bool} (h : ¬ q<t.size):Goes 1 (MK code t s pc pos hd b ({ wait:=.nextStart,pc:=p,pos:=q,outermost:=c }::fr) (wt+1) (some false) sn none) (MK code t s p q hd c fr wt (some false) sn none):=by
 have g:=Goes.step (m:=MK code t s pc pos hd b ({ wait:=.nextStart,pc:=p,pos:=q,outermost:=c }::fr) (wt+1) (some false) sn none) rfl
 have e:(MK code t s pc pos hd b ({ wait:=.nextStart,pc:=p,pos:=q,outermost:=c }::fr) (wt+1) (some false) sn none).step=(if q<t.size then { MK code t s p q hd c fr wt none sn none with mustAdvance:=false }.attemptFrom (q+1) false else (MK code t s p q hd c fr wt none sn none).say false):=rfl
 rw [e,if_neg h] at g
 exact g
theorem zC1 {p q:Nat} {c:Bool} (h:q<t.size):Goes 1 (MK code t s pc pos hd b ({ wait:=.nextStart,pc:=p,pos:=q,outermost:=c }::fr) (wt+1) (some false) sn none) ((MK code t s p q hd c fr wt none sn none).attemptFrom (q+1) false):=by
 have g:=Goes.step (m:=MK code t s pc pos hd b ({ wait:=.nextStart,pc:=p,pos:=q,outermost:=c }::fr) (wt+1) (some false) sn none) rfl
 have e:(MK code t s pc pos hd b ({ wait:=.nextStart,pc:=p,pos:=q,outermost:=c }::fr) (wt+1) (some false) sn none).step=(if q<t.size then { MK code t s p q hd c fr wt none sn none with mustAdvance:=false }.attemptFrom (q+1) false else (MK code t s p q hd c fr wt none sn none).say false):=rfl
 rw [e,if_pos h] at g
 exact g
theorem zT3 (m:Sre.M) (h0:m.code.getD m.pc 0=7) (hi:m.inner=none) (hne:m.code.getD (m.pc+1) 0≠0) (hw:m.weight<1000) :
  m.exec = { m with seen:=m.seen.add 7,frames:={ wait:=.nextBranch,pc:=m.pc+1,pos:=m.pos,outermost:=m.outermost,kept:={ lastmark:=m.lastmark,lastindex:=m.lastindex,whole:=false,marks := #[] } }::m.frames,weight:=m.weight+1,pc:=m.pc+2,handed:=m.pos }:=by
 have hop:Sre.ops[7]? = some .BRANCH:=rfl
 refine ((zl4 m (some .BRANCH)).2 (by rw [h0]; rfl)).trans ?_
 dsimp only [zl4]
 rw [h0]
 unfold Sre.M.alternative Sre.M.keep
 dsimp only
 rw [hi]
 have e:(m.code.getD (m.pc+1) 0==0)=false:=by simpa using hne
 rw [e]
 unfold Sre.M.attempt Sre.M.frame
 dsimp only
 rw [if_neg (by decide),if_neg (by simp; lia)]
 rfl
theorem ya9 (hp:pc<code.size) (h0:code.getD pc 0=7) (hne:code.getD (pc+1) 0≠0) (hw:wt<1000) :
  ∃ sn',Goes 1 (MK code t s pc pos hd b fr wt none sn none) (MK code t s (pc+2) pos pos b ({ wait:=.nextBranch,pc:=pc+1,pos:=pos,outermost:=b }::fr) (wt+1) none sn' none):=by
 have g:=Goes.step (m:=MK code t s pc pos hd b fr wt none sn none) rfl
 rw [ze8 _ hp rfl rfl,zT3 _ h0 rfl hne hw] at g
 exact ⟨_,g⟩
theorem yg1 (m:Sre.M) (h0:m.code.getD m.pc 0=5) (h2:m.code.getD (m.pc+2) 0=0) (hi:m.inner=none) (hw:m.weight<1000) :
  m.exec = { m with seen:=m.seen.add 5,frames:={ wait:=.lookNot,pc:=m.pc,pos:=m.pos,outermost:=m.outermost,kept:={ lastmark:=m.lastmark,lastindex:=m.lastindex,whole:=false,marks := #[] } }::m.frames,weight:=m.weight+1,pc:=m.pc+3,handed:=m.pos,outermost:=false }:=by
 have hop:Sre.ops[5]? = some .ASSERT_NOT:=rfl
 refine ((zl4 m (some .ASSERT_NOT)).2 (by rw [h0]; rfl)).trans ?_
 dsimp only [zl4]
 rw [h0]
 rw [h2,if_neg (by simp)]
 unfold Sre.M.keep Sre.M.attempt Sre.M.frame
 dsimp only
 rw [hi,if_neg (by simp; lia)]
 rfl
theorem ym6 (hp:pc<code.size) (h0:code.getD pc 0=5) (h2:code.getD (pc+2) 0=0) (hw:wt<1000) :
  ∃ sn',Goes 1 (MK code t s pc pos hd b fr wt none sn none) (MK code t s (pc+3) pos pos false ({ wait:=.lookNot,pc:=pc,pos:=pos,outermost:=b }::fr) (wt+1) none sn' none):=by
 have g:=Goes.step (m:=MK code t s pc pos hd b fr wt none sn none) rfl
 rw [ze8 _ hp rfl rfl,yg1 _ h0 h2 rfl hw] at g
 exact ⟨_,g⟩
theorem zC2 {p q:Nat} {c:Bool}:Goes 1 (MK code t s pc pos hd b ({ wait:=.nextBranch,pc:=p,pos:=q,outermost:=c }::fr) (wt+1) (some true) sn none) (MK code t s p q hd c fr wt (some true) sn none):=Goes.step rfl
theorem zk4 {p q d:Nat} {c:Bool} (hd':code.getD p 0=d) (hne:code.getD (p+d) 0≠0) (hw:wt<1000) :
  Goes 1 (MK code t s pc pos hd b ({ wait:=.nextBranch,pc:=p,pos:=q,outermost:=c }::fr) (wt+1) (some false) sn none) (MK code t s (p+d+1) q q c ({ wait:=.nextBranch,pc:=p+d,pos:=q,outermost:=c }::fr) (wt+1) none sn none):=by
 have g:=Goes.step (m:=MK code t s pc pos hd b ({ wait:=.nextBranch,pc:=p,pos:=q,outermost:=c }::fr) (wt+1) (some false) sn none) rfl
 have e:(MK code t s pc pos hd b ({ wait:=.nextBranch,pc:=p,pos:=q,outermost:=c }::fr) (wt+1) (some false) sn none).step=(MK code t s p q hd c fr wt none sn none).alternative (p+code.getD p 0) {}:=rfl
 rw [e,hd'] at g
 unfold Sre.M.alternative at g
 have e2:((MK code t s p q hd c fr wt none sn none).code.getD (p+d) 0==0)=false:=by
  show (code.getD (p+d) 0==0)=false
  simpa using hne
 rw [e2] at g
 unfold Sre.M.attempt Sre.M.frame at g
 dsimp only at g
 rw [if_neg (by decide),if_neg (by show ¬ wt+1+0>16777216; lia)] at g
 exact g
theorem zV4 {p q d:Nat} {c:Bool} (hd':code.getD (p+1) 0=d) :
  Goes 1 (MK code t s pc pos hd b ({ wait:=.lookNot,pc:=p,pos:=q,outermost:=c }::fr) (wt+1) (some false) sn none) (MK code t s (p+1+d) q hd c fr wt none sn none):=by
 have g:=Goes.step (m:=MK code t s pc pos hd b ({ wait:=.lookNot,pc:=p,pos:=q,outermost:=c }::fr) (wt+1) (some false) sn none) rfl
 have e:(MK code t s pc pos hd b ({ wait:=.lookNot,pc:=p,pos:=q,outermost:=c }::fr) (wt+1) (some false) sn none).step=MK code t s (p+1+code.getD (p+1) 0) q hd c fr wt none sn none:=rfl
 rw [e,hd'] at g
 exact g
end
noncomputable def Ends (n:Nat) (m:Sre.M) (r:Option (Nat × Nat)):Prop :=
 ∃ m',Goes n m m'∧match r with
  | some (a,e)=>m'.outcome=some .matched∧m'.start=a∧m'.handed=e
  | none=>m'.outcome=some .failed
theorem Ends.after {a b:Nat} {m m':Sre.M} {r} (g:Goes a m m') (h:Ends b m' r):Ends (a+b) m r :=
 let ⟨x,y,z⟩:=h; ⟨x,g.trans y,z⟩
noncomputable abbrev St1 (t:Array Nat) (s:Nat) (b:Bool) (sn:Sre.Seen):Sre.M:=MK rc1 t s 5 s s b [{ wait:=.nextStart,pc:=5,pos:=s,outermost:=b }] 1 none sn none
noncomputable def hit1 (t:Array Nat) (s:Nat):Bool:=decide (t.getD s 0=46)&&(decide (s=0)||decide (t.getD (s - 1) 0=10))
noncomputable def nx1 (t:Array Nat):Nat→Nat→Option (Nat × Nat)
 | 0,_=>none
 | f+1,s=>if hit1 t s then some (s,s+1) else nx1 t f (s+1)
theorem run1 (t:Array Nat) : ∀ (f s:Nat) (b:Bool) (sn:Sre.Seen),f=t.size - s→s≤t.size→∃ n,n≤6*(f+1)∧Ends n (St1 t s b sn) (nx1 t f s)
 | 0,s,b,sn,hf,hs=>by
  have he:s=t.size:=by lia
  by_cases ha:(decide (s=0)||decide (t.getD (s - 1) 0=10))=true
  ·obtain ⟨sn1,g1⟩:=T_at (s:=s) (hd:=s) (b:=b) (sn:=sn) (fr:=[{ wait:=.nextStart,pc:=5,pos:=s,outermost:=b }]) (wt:=1) (code:=rc1) (pc:=5) true (by decide) (by decide) (by decide) ha
   rw [if_pos rfl] at g1
   obtain ⟨sn2,g2⟩:=zn0 (t:=t) (s:=s) (hd:=s) (b:=b) (sn:=sn1) (fr:=[{ wait:=.nextStart,pc:=5,pos:=s,outermost:=b }]) (wt:=1) (code:=rc1) (pc:=7) (pos:=s) 46 (by decide) (by decide) (by decide) (by lia)
   exact ⟨_,by decide,_,((g1.trans g2).trans (zs3 (by lia))).trans (yb0 false),rfl⟩
  ·obtain ⟨sn1,g1⟩:=T_at (s:=s) (hd:=s) (b:=b) (sn:=sn) (fr:=[{ wait:=.nextStart,pc:=5,pos:=s,outermost:=b }]) (wt:=1) (code:=rc1) (pc:=5) false (by decide) (by decide) (by decide) (by simpa using ha)
   exact ⟨_,by decide,_,(g1.trans (zs3 (by lia))).trans (yb0 false),rfl⟩
 | f+1,s,b,sn,hf,hs=>by
  have hlt:s<t.size:=by lia
  unfold nx1
  by_cases hh:hit1 t s=true
  ·rw [if_pos hh]
   unfold hit1 at hh
   rw [Bool.and_eq_true,decide_eq_true_eq] at hh
   obtain ⟨sn1,g1⟩:=T_at (s:=s) (hd:=s) (b:=b) (sn:=sn) (fr:=[{ wait:=.nextStart,pc:=5,pos:=s,outermost:=b }]) (wt:=1) (code:=rc1) (pc:=5) true (by decide) (by decide) (by decide) hh.2
   rw [if_pos rfl] at g1
   obtain ⟨sn2,g2⟩:=zV2 (t:=t) (s:=s) (hd:=s) (b:=b) (sn:=sn1) (fr:=[{ wait:=.nextStart,pc:=5,pos:=s,outermost:=b }]) (wt:=1) (code:=rc1) (pc:=7) (pos:=s) 46 (by decide) (by decide) (by decide) hlt hh.1
   obtain ⟨sn3,g3⟩:=yc2 (t:=t) (s:=s) (hd:=s) (b:=b) (sn:=sn2) (fr:=[{ wait:=.nextStart,pc:=5,pos:=s,outermost:=b }]) (wt:=1) (code:=rc1) (pc:=9) (pos:=s+1) (by decide) (by decide)
   exact ⟨_,by exact Nat.le_add_left _ _,_,(((g1.trans g2).trans g3).trans zs2).trans (yb0 true),rfl,rfl,rfl⟩
  ·rw [if_neg hh]
   have next : ∀ pc pos hd b' sn',Goes 1 (MK rc1 t s pc pos hd b' [{ wait:=.nextStart,pc:=5,pos:=s,outermost:=b }] 1 (some false) sn' none) (St1 t (s+1) false sn'):=fun pc pos hd b' sn' =>
    zC1 (code:=rc1) (fr:=[]) (wt:=0) hlt
   by_cases ha:(decide (s=0)||decide (t.getD (s - 1) 0=10))=true
   ·obtain ⟨sn1,g1⟩:=T_at (s:=s) (hd:=s) (b:=b) (sn:=sn) (fr:=[{ wait:=.nextStart,pc:=5,pos:=s,outermost:=b }]) (wt:=1) (code:=rc1) (pc:=5) true (by decide) (by decide) (by decide) ha
    rw [if_pos rfl] at g1
    obtain ⟨sn2,g2⟩:=zn0 (t:=t) (s:=s) (hd:=s) (b:=b) (sn:=sn1) (fr:=[{ wait:=.nextStart,pc:=5,pos:=s,outermost:=b }]) (wt:=1) (code:=rc1) (pc:=7) (pos:=s) 46 (by decide) (by decide) (by decide) (fun _ hc=>hh (by unfold hit1; rw [Bool.and_eq_true,decide_eq_true_eq]; exact ⟨hc,ha⟩))
    refine obEA (run1 t f (s+1) false sn2 (by lia) (by assumption)) fun n hn e=>?_
    exact ⟨_,by lia,e.after ((g1.trans g2).trans (next _ _ _ _ _))⟩
   ·obtain ⟨sn1,g1⟩:=T_at (s:=s) (hd:=s) (b:=b) (sn:=sn) (fr:=[{ wait:=.nextStart,pc:=5,pos:=s,outermost:=b }]) (wt:=1) (code:=rc1) (pc:=5) false (by decide) (by decide) (by decide) (by simpa using ha)
    refine obEA (run1 t f (s+1) false sn1 (by lia) (by lia)) fun n hn e=>?_
    exact ⟨_,by lia,e.after (g1.trans (next _ _ _ _ _))⟩
theorem yd0 (t:Array Nat) (p:Nat) : ∃ n,n≤6*(t.size+1)∧Ends n (Sre.forSearch rc1 t 0 p t.size false) (nx1 t (t.size - p) p):=by
 unfold Sre.forSearch
 dsimp only
 by_cases h:p<t.size
 ·have e1:(decide (p>t.size)||decide (t.size - p<(Sre.header rc1).1))=false:=by
   have:(Sre.header rc1).1=1:=by decide
   rw [this]; simp; lia
  rw [e1]
  refine obEA (run1 t (t.size - p) p true (({}:Sre.Seen).add 14) rfl (by exact Nat.le_of_lt ‹_›)) fun n hn e=>?_
  exact ⟨n,by lia,e⟩
 ·have e1:(decide (p>t.size)||decide (t.size - p<(Sre.header rc1).1))=true:=by
   have:(Sre.header rc1).1=1:=by decide
   rw [this]; simp; lia
  rw [e1,if_pos rfl]
  have hz:t.size - p=0:=by lia
  rw [hz]
  exact ⟨1,by exact Nat.succ_pos _,_,Goes.step rfl,rfl⟩
end Mine
namespace Mine
noncomputable abbrev F2 (s:Nat) (b:Bool):Sre.Frame:={ wait:=.nextStart,pc:=10,pos:=s,outermost:=b }
noncomputable abbrev B2 (p s:Nat) (b:Bool):Sre.Frame:={ wait:=.nextBranch,pc:=p,pos:=s,outermost:=b }
noncomputable abbrev St2 (t:Array Nat) (s:Nat) (b:Bool) (sn:Sre.Seen):Sre.M:=MK rc2 t s 10 s s b [F2 s b] 1 none sn none
noncomputable def len2 (t:Array Nat) (s:Nat):Nat:=if t.getD s 0=13∧s+1<t.size∧t.getD (s+1) 0=10 then 2 else 1
noncomputable def nx2 (t:Array Nat):Nat→Nat→Option (Nat × Nat)
 | 0,_=>none
 | f+1,s=>if t.getD s 0=10∨t.getD s 0=13 then some (s,s+len2 t s) else nx2 t f (s+1)
theorem run2 (t:Array Nat) (s:Nat) (b:Bool) (sn:Sre.Seen) (hs:s<t.size) (hc:t.getD s 0=10∨t.getD s 0=13) : ∃ n,n≤20∧Ends n (St2 t s b sn) (some (s,s+len2 t s)):=by
 have done : ∀ (p:Nat) (pos:Nat) (hd:Nat) (sn':Sre.Seen),pos=s+len2 t s→Ends 4 (MK rc2 t s 35 pos hd b [B2 p s b,F2 s b] 2 none sn' none) (some (s,s+len2 t s)):=by
  intro p pos hd sn' hp
  obtain ⟨sn1,g1⟩:=yc2 (t:=t) (s:=s) (hd:=hd) (b:=b) (sn:=sn') (fr:=[B2 p s b,F2 s b]) (wt:=2) (code:=rc2) (pc:=35) (pos:=pos) (by decide) (by decide)
  exact ⟨_,((g1.trans zC2).trans zs2).trans (yb0 true),rfl,rfl,hp⟩
 obtain ⟨sn1,g1⟩:=ya9 (t:=t) (s:=s) (pos:=s) (hd:=s) (b:=b) (sn:=sn) (fr:=[F2 s b]) (wt:=1) (code:=rc2) (pc:=10) (by decide) (by decide) (by decide) (by decide)
 by_cases h13:t.getD s 0=13
 ·obtain ⟨sn2,g2⟩:=zV2 (t:=t) (s:=s) (hd:=s) (b:=b) (sn:=sn1) (fr:=[B2 11 s b,F2 s b]) (wt:=2) (code:=rc2) (pc:=12) (pos:=s) 13 (by decide) (by decide) (by decide) hs h13
  by_cases h10:s+1<t.size∧t.getD (s+1) 0=10
  ·have hl:len2 t s=2:=by unfold len2; rw [if_pos ⟨h13,h10⟩]
   obtain ⟨sn3,g3⟩:=zV2 (t:=t) (s:=s) (hd:=s) (b:=b) (sn:=sn2) (fr:=[B2 11 s b,F2 s b]) (wt:=2) (code:=rc2) (pc:=14) (pos:=s+1) 10 (by decide) (by decide) (by decide) h10.1 h10.2
   obtain ⟨sn4,g4⟩:=zV3 (t:=t) (s:=s) (hd:=s) (b:=b) (sn:=sn3) (fr:=[B2 11 s b,F2 s b]) (wt:=2) (code:=rc2) (pc:=16) (pos:=s+1+1) 18 (by decide) (by decide) (by decide)
   exact ⟨_,by decide,(done 11 (s+1+1) s sn4 (by lia)).after (((g1.trans g2).trans g3).trans g4)⟩
  ·have hl:len2 t s=1:=by unfold len2; rw [if_neg (fun h=>h10 h.2)]
   have hno:s+1<t.size→t.getD (s+1) 0≠10:=fun a c=>h10 ⟨a,c⟩
   obtain ⟨sn3,g3⟩:=zn0 (t:=t) (s:=s) (hd:=s) (b:=b) (sn:=sn2) (fr:=[B2 11 s b,F2 s b]) (wt:=2) (code:=rc2) (pc:=14) (pos:=s+1) 10 (by decide) (by decide) (by decide) hno
   have g4:Goes 1 (MK rc2 t s 14 (s+1) s b [B2 11 s b,F2 s b] 2 (some false) sn3 none) _:=zk4 (p:=11) (d:=7) (wt:=1) (by decide) (by decide) (by decide)
   obtain ⟨sn5,g5⟩:=zn0 (t:=t) (s:=s) (hd:=s) (b:=b) (sn:=sn3) (fr:=[B2 18 s b,F2 s b]) (wt:=2) (code:=rc2) (pc:=19) (pos:=s) 10 (by decide) (by decide) (by decide) (fun _ h=>by rw [h13] at h; cases h)
   have g6:Goes 1 (MK rc2 t s 19 s s b [B2 18 s b,F2 s b] 2 (some false) sn5 none) _:=zk4 (p:=18) (d:=5) (wt:=1) (by decide) (by decide) (by decide)
   obtain ⟨sn7,g7⟩:=zV2 (t:=t) (s:=s) (hd:=s) (b:=b) (sn:=sn5) (fr:=[B2 23 s b,F2 s b]) (wt:=2) (code:=rc2) (pc:=24) (pos:=s) 13 (by decide) (by decide) (by decide) hs h13
   obtain ⟨sn8,g8⟩:=ym6 (t:=t) (s:=s) (hd:=s) (b:=b) (sn:=sn7) (fr:=[B2 23 s b,F2 s b]) (wt:=2) (code:=rc2) (pc:=26) (pos:=s+1) (by decide) (by decide) (by decide) (by decide)
   obtain ⟨sn9,g9⟩:=zn0 (t:=t) (s:=s) (hd:=s+1) (b:=false) (sn:=sn8) (fr:=[{ wait:=.lookNot,pc:=26,pos:=s+1,outermost:=b },B2 23 s b,F2 s b]) (wt:=3) (code:=rc2) (pc:=29) (pos:=s+1) 10 (by decide) (by decide) (by decide) hno
   have g10:Goes 1 (MK rc2 t s 29 (s+1) (s+1) false [{ wait:=.lookNot,pc:=26,pos:=s+1,outermost:=b },B2 23 s b,F2 s b] 3 (some false) sn9 none) _:=zV4 (p:=26) (d:=5) (wt:=2) (by decide)
   obtain ⟨sn11,g11⟩:=zV3 (t:=t) (s:=s) (hd:=s+1) (b:=b) (sn:=sn9) (fr:=[B2 23 s b,F2 s b]) (wt:=2) (code:=rc2) (pc:=32) (pos:=s+1) 2 (by decide) (by decide) (by decide)
   exact ⟨_,by decide,(done 23 (s+1) (s+1) sn11 (by lia)).after ((((((((((g1.trans g2).trans g3).trans g4).trans g5).trans g6).trans g7).trans g8).trans g9).trans g10).trans g11)⟩
 ·have h10:t.getD s 0=10:=hc.resolve_right h13
  have hl:len2 t s=1:=by unfold len2; rw [if_neg (fun h=>h13 h.1)]
  obtain ⟨sn2,g2⟩:=zn0 (t:=t) (s:=s) (hd:=s) (b:=b) (sn:=sn1) (fr:=[B2 11 s b,F2 s b]) (wt:=2) (code:=rc2) (pc:=12) (pos:=s) 13 (by decide) (by decide) (by decide) (fun _=>h13)
  have g4:Goes 1 (MK rc2 t s 12 s s b [B2 11 s b,F2 s b] 2 (some false) sn2 none) _:=zk4 (p:=11) (d:=7) (wt:=1) (by decide) (by decide) (by decide)
  obtain ⟨sn5,g5⟩:=zV2 (t:=t) (s:=s) (hd:=s) (b:=b) (sn:=sn2) (fr:=[B2 18 s b,F2 s b]) (wt:=2) (code:=rc2) (pc:=19) (pos:=s) 10 (by decide) (by decide) (by decide) hs h10
  obtain ⟨sn6,g6⟩:=zV3 (t:=t) (s:=s) (hd:=s) (b:=b) (sn:=sn5) (fr:=[B2 18 s b,F2 s b]) (wt:=2) (code:=rc2) (pc:=21) (pos:=s+1) 13 (by decide) (by decide) (by decide)
  exact ⟨_,by decide,(done 18 (s+1) s sn6 (by lia)).after ((((g1.trans g2).trans g4).trans g5).trans g6)⟩
theorem yk4 (c:Nat) (sn:Sre.Seen) : ∃ sn',Sre.inSet rc2 c rc2.size 5 true sn = .ok (decide (c=10∨c=13),sn'):=by
 have key : ∃ a b d,Sre.inSet rc2 c rc2.size 5 true sn=(if (c==10)=true then .ok (true,a) else if (c==13)=true then .ok (true,b) else .ok (false,d)):=⟨_,_,_,rfl⟩
 refine zd6 key fun a b d e=>?_
 rw [e]
 by_cases h1:c=10
 ·subst h1; exact ⟨a,rfl⟩
 ·by_cases h2:c=13
  ·subst h2; exact ⟨b,rfl⟩
  ·exact ⟨d,by simp [h1,h2]⟩
noncomputable def adm2 (t:Array Nat):Nat→Nat→Option Nat
 | 0,_=>none
 | f+1,s=>if s≥t.size then none else if t.getD s 0=10∨t.getD s 0=13 then some s else adm2 t f (s+1)
theorem yc0 {t:Array Nat} {m:Sre.M} (hm:m.code=rc2) (ht:m.text=t) (hl:m.lim=t.size) : ∀ (f s:Nat) (sn:Sre.Seen),∃ sn',Sre.M.admitted m f s sn = .ok (adm2 t f s,sn')
 | 0,s,sn=>⟨sn,rfl⟩
 | f+1,s,sn=>by
  unfold Sre.M.admitted adm2
  rw [hl]
  split
  ·exact ⟨sn,rfl⟩
  ·obtain ⟨sn1,e⟩:=yk4 (t.getD s 0) sn
   rw [hm,ht,e]
   by_cases h:t.getD s 0=10∨t.getD s 0=13
   ·rw [if_pos h]
    simp only [h,decide_true]
    exact ⟨sn1,rfl⟩
   ·rw [if_neg h]
    simp only [h,decide_false]
    exact yc0 hm ht hl f (s+1) sn1
theorem zV1 {t:Array Nat} : ∀ (f s:Nat),f=t.size - s→s≤t.size→match adm2 t (f+1) s with
  | some a=>nx2 t f s=some (a,a+len2 t a)∧a<t.size∧(t.getD a 0=10∨t.getD a 0=13)
  | none=>nx2 t f s=none
 | 0,s,hf,hs=>by
  unfold adm2
  rw [if_pos (by lia)]; rfl
 | f+1,s,hf,hs=>by
  unfold adm2 nx2
  rw [if_neg (by lia)]
  by_cases h:t.getD s 0=10∨t.getD s 0=13
  ·rw [if_pos h,if_pos h]; exact ⟨rfl,by lia,h⟩
  ·rw [if_neg h,if_neg h]; exact zV1 f (s+1) (by lia) (by lia)
theorem yc9 (t:Array Nat) (p:Nat) : ∃ n,n≤20∧Ends n (Sre.forSearch rc2 t 0 p t.size false) (nx2 t (t.size - p) p):=by
 unfold Sre.forSearch
 dsimp only
 by_cases h:p<t.size
 ·have e1:(decide (p>t.size)||decide (t.size - p<(Sre.header rc2).1))=false:=by
   have:(Sre.header rc2).1=1:=by decide
   rw [this]; simp; lia
  rw [e1]
  show ∃ n,n≤20∧Ends n ((MK rc2 t p 10 p p true [] 0 none (({}:Sre.Seen).add 14) none).attemptFrom p true) _
  obtain ⟨sn,e⟩:=yc0 (t:=t) (m:=MK rc2 t p 10 p p true [] 0 none (({}:Sre.Seen).add 14) none) rfl rfl rfl (t.size+1 - p) p (({}:Sre.Seen).add 14)
  have hz:t.size+1 - p=(t.size - p)+1:=by lia
  have hA:=zV1 (t:=t) (t.size - p) p rfl (by exact Nat.le_of_lt ‹_›)
  have e0:(MK rc2 t p 10 p p true [] 0 none (({}:Sre.Seen).add 14) none).attemptFrom p true=(match Sre.M.admitted (MK rc2 t p 10 p p true [] 0 none (({}:Sre.Seen).add 14) none) (t.size+1 - p) p (({}:Sre.Seen).add 14) with
   | .ok (some s,seen)=>{ MK rc2 t p 10 p p true [] 0 none (({}:Sre.Seen).add 14) none with mustAdvance:=false,seen }.attemptAt s true
   | .ok (none,seen)=>{ MK rc2 t p 10 p p true [] 0 none (({}:Sre.Seen).add 14) none with seen }.say false
   | .error why=>(MK rc2 t p 10 p p true [] 0 none (({}:Sre.Seen).add 14) none).stick why):=rfl
  rw [e0,e,hz]
  cases ha:adm2 t (t.size - p+1) p with
  | none =>
   rw [ha] at hA
   rw [hA]
   exact ⟨1,by exact Nat.succ_pos _,_,Goes.step rfl,rfl⟩
  | some a =>
   rw [ha] at hA
   (have h1:=hA.1; have h2:=hA.2.1; have h3:=hA.2.2)
   rw [h1]
   exact run2 t a true sn h2 h3
 ·have e1:(decide (p>t.size)||decide (t.size - p<(Sre.header rc2).1))=true:=by
   have:(Sre.header rc2).1=1:=by decide
   rw [this]; simp; lia
  rw [e1,if_pos rfl]
  have hz:t.size - p=0:=by lia
  rw [hz]
  exact ⟨1,by lia,_,Goes.step rfl,rfl⟩
end Mine
namespace Mine
open PySem.Builtin.Re
section
variable {M:Model} {A:Around} {E:Value→Shared→Prop} {s:Shared}
theorem zt1 (a b:Nat) (m:Sre.M):Sre.M.runFor (a+b) m=Sre.M.runFor b (Sre.M.runFor a m):=by
 induction a generalizing m with
 | zero=>rw [Nat.zero_add]; rfl
 | succ a ih =>
  rw [Nat.succ_add]
  show (if m.outcome.isSome then m else Sre.M.runFor (a+b) m.step)=Sre.M.runFor b (if m.outcome.isSome then m else Sre.M.runFor a m.step)
  split
  ·rename_i h; rw [zg1 h]
  ·exact ih _
theorem zI6 {m':Sre.M} (ho:m'.outcome.isSome=true) {Q:Sre.M→Shared→Prop} (h:Q m' s) : ∀ (turns n:Nat) (m:Sre.M),Goes n m m'→n≤4*turns→0<turns→wpAny M A (reDrive turns m) Q E s
 | 0,_,_,_,_,h0=>absurd h0 (by decide)
 | turns+1,n,m,g,hn,_=>by
  show wpAny M A (if (m.runFor 4).outcome.isSome then pure (m.runFor 4) else do rule "sre.turn"; reDrive turns (m.runFor 4)) Q E s
  by_cases hq:n≤4
  ·have e:m.runFor 4=m':=by
    have:=g (4 - n)
    rw [show n+(4 - n)=4 by omega] at this
    rw [this,zg1 ho]
   rw [e,ho,if_pos rfl]
   exact wpAny_pure h
  ·by_cases hs:(m.runFor 4).outcome.isSome=true
   ·have e:m.runFor 4=m':=by
     have h1:=g 4
     rw [Nat.add_comm,zt1,zg1 hs,zg1 ho] at h1
     exact h1
    rw [e,ho,if_pos rfl]
    exact wpAny_pure h
   ·rw [if_neg hs]
    refine wpAny_bind (wpAny_rule ?_)
    refine zI6 ho h turns (n - 4) _ (fun k=>?_) (by omega) (by omega)
    rw [← zt1,show 4+(n - 4+k)=n+k by omega]
    exact g k
theorem zu1 {α:Type} {f:α→PUnit→Sem (ForInStep PUnit)} {Q:PUnit→Shared→Prop} : ∀ (l:List α),(∀ i,∀ (Q':ForInStep PUnit→Shared→Prop),Q' (.yield ()) s→wpAny M A (f i ()) Q' E s)→Q () s→wpAny M A (forIn l PUnit.unit f) Q E s
 | [],_,h=>by rw [List.forIn_nil]; exact wpAny_pure h
 | i::l,hf,h=>by
  rw [List.forIn_cons]
  exact wpAny_bind (hf i _ (zu1 l hf h))
theorem zp0 {n:Nat} {m:Sre.M} {r:Option (Nat × Nat)} (he:Ends n m r) (hn:n≤2 ^ 60) {Q:Option Sre.M→Shared→Prop}
  (h:match r with | some (a,e)=>∀ m':Sre.M,m'.start=a→m'.handed=e→Q (some m') s | none=>Q none s):wpAny M A (reRunToEnd m) Q E s:=by
 refine obEA he fun m' g hr=>?_
 have ho:m'.outcome.isSome=true:=by
  cases r with
  | none=>rw [hr]; rfl
  | some p=>rw [hr.1]; rfl
 unfold reRunToEnd
 refine wpAny_bind (zI6 ho ?_ _ n m g (by exact Nat.le_trans ‹_› (by decide)) (by exact Nat.two_pow_pos _))
 refine wpAny_bind (zu1 _ (fun i Q' hQ=>?_) ?_)
 ·split
  ·exact wpAny_bind (wpAny_rule (wpAny_pure hQ))
  ·exact wpAny_bind (wpAny_pure (wpAny_pure hQ))
 ·cases r with
  | none=>rw [hr]; exact wpAny_pure h
  | some p=>rw [hr.1]; exact wpAny_pure (h m' hr.2.1 hr.2.2)
end
end Mine
namespace Mine
open PySem.Builtin.Re
noncomputable def PatIn (h:Heap) (a:Addr) (code:List Nat):Prop :=
 ∃ o vs tp ot m,h.get? a=some o∧o.cls = .type "re.Pattern" ∧ o.dict=none∧o.data = .fields vs∧reRawNat (vs.getD 2 .none)=0∧vs.getD 5 .none = .ref tp∧reRawNat (vs.getD 6 .none)=0 ∧
  h.get? tp=some ot∧ot.cls = .type "tuple" ∧ ot.data = .seq (code.map fun (w:Nat)=>rawInt w).toArray m
theorem PatIn.keeps {h h':Heap} {a:Addr} {code:List Nat} (x:PatIn h a code) (k : ∀ b o,h.get? b=some o→h'.get? b=some o):PatIn h' a code:=by
 refine zb9 x fun o vs tp ot m h1 h2 h3 h4 h5 h6 h7 h8 hc h9=>?_
 exact ⟨o,vs,tp,ot,m,k _ _ h1,h2,h3,h4,h5,h6,h7,k _ _ h8,hc,h9⟩
theorem PatIn.but {h h':Heap} {a L:Addr} {code:List Nat} {o':Obj} (x:PatIn h a code) (hl:h.get? L=some o') (hc':o'.cls = .type "list") (k : ∀ b,b≠L→∀ o,h.get? b=some o→h'.get? b=some o):PatIn h' a code:=by
 refine zb9 x fun o vs tp ot m h1 h2 h3 h4 h5 h6 h7 h8 hc h9=>?_
 have n1:a≠L:=by rintro rfl; rw [hl] at h1; cases h1; rw [hc'] at h2; exact absurd h2 (by decide)
 have n2:tp≠L:=by rintro rfl; rw [hl] at h8; cases h8; rw [hc'] at hc; exact absurd hc (by decide)
 exact ⟨o,vs,tp,ot,m,k _ n1 _ h1,h2,h3,h4,h5,h6,h7,k _ n2 _ h8,hc,h9⟩
section
variable {M:Model} {A:Around} {E:Value→Shared→Prop} {s:Shared} {a:Addr} {code:List Nat}
theorem zf5 {x:Str} {t:Tok} {Q:ReTarget→Shared→Prop} (hp:PatIn s.heap a code)
  (h:Q { pattern:=.ref a,string:=.str x t,code:=code.toArray,text:=x.cps,kind:=0,groups:=0,pos:=0,lim:=x.cps.size } s):wpAny M A (reWholeTarget (.ref a) (.str x t)) Q E s:=by
 refine zb9 hp fun o vs tp ot m h1 h2 h3 h4 h5 h6 h7 h8 hc h9=>?_
 unfold reWholeTarget fieldsOf
 refine wpAny_bind (wpAny_bind (wpAny_load h1 ?_))
 rw [h4]
 refine wpAny_pure ?_
 unfold reTextOf
 refine wpAny_bind (m:=_) (wpAny_of_eq (a:=(x.cps,0)) (by first | rfl | (simp [asStr?]; rfl)) ?_)
 dsimp only
 rw [h7]
 rw [if_neg (by decide),if_neg (by decide)]
 refine wpAny_bind (m:=reNoCollectionInside (.str x t) 0) (wpAny_of_eq (a:=()) rfl ?_)
 rw [h6,h5]
 unfold reRawItems
 refine wpAny_bind (wpAny_bind (wpAny_seqItems h8 h9 (wpAny_pure ?_)))
 have e:Array.map (fun (x:Int)=>x.toNat) (Array.map reRawOf (List.map (fun (w:Nat)=>rawInt w) code).toArray)=code.toArray:=by
  simp [Function.comp_def,reRawOf,rawInt]
 show wpAny M A (pure _) Q E s
 rw [Option.getD_some,e]
 exact wpAny_pure h
end
noncomputable def zd3 (nx:Array Nat→Nat→Nat→Option (Nat × Nat)) (T repl:List Nat):Nat→Nat→List Nat
 | 0,p=>T.drop p
 | f+1,p=>match nx T.toArray (T.length - p) p with
  | some (a,e)=>(T.take a).drop p++(repl++zd3 nx T repl f e)
  | none=>T.drop p
structure NxOk (code:List Nat) (nx:Array Nat→Nat→Nat→Option (Nat × Nat)):Prop where
 search : ∀ t p,t.size≤sizeLine→∃ n,n≤2 ^ 60∧Ends n (Sre.forSearch code.toArray t 0 p t.size false) (nx t (t.size - p) p)
 ord : ∀ t f p a e,f=t.size - p→nx t f p=some (a,e)→p≤a∧a<e∧e≤t.size
section
variable {K:Kc} {A:Around} {E:Value→Shared→Prop} {s:Shared} {a L:Addr} {code:List Nat}
theorem zl8 (args:Args):(Code.builtin "re.Pattern.sub.loop" args).quiet=true:=plainId_quiet (by decide +kernel) args
theorem zv3 {x:Str} {b e:Nat} {Q:Value→Shared→Prop} (h:Q (.str ⟨x.cps.extract b e⟩ s.toks) { s with toks:=s.toks+1 }) (hx:x.length≤sizeLine):wpAny (KM K) A (reSlice x.cps 0 b e) Q E s:=by
 unfold reSlice
 rw [if_pos (by rfl)]
 refine wpAny_mkStr h ?_
 have:(x.cps.extract b e).size≤x.cps.size:=by simp; omega
 exact Nat.le_trans this hx
theorem zv4 {vs:Array Value} {m:Nat} {u:Value} {Q:Unit→Shared→Prop} (ho:s.heap.get? L=some { cls:=.type "list",dict:=none,data:=.seq vs m,slots := #[] }) (hz:vs.size≤sizeLine)
  (h : ∀ h' m',h'.get? L=some { cls:=.type "list",dict:=none,data:=.seq (vs.push u) m',slots := #[] }→Heap.SameBut L s.heap h'→Q () { s with heap:=h' }):wpAny (KM K) A (updateSeq L (·.push u)) Q E s :=
 wpAny_updateSeq ho rfl (h _ _ (Heap.get?_update_self _ ho rfl) (Heap.SameBut.update ..))
noncomputable abbrev zX8 (a L:Addr) (T repl:List Nat) (tx tr:Tok) (n:Int) (p:Nat):Code:=.builtin "re.Pattern.sub.loop" ⟨[.ref a,.str ⟨T.toArray⟩ tx,.str ⟨repl.toArray⟩ tr,rawInt 0,rawInt 0,rawInt n,rawInt p,rawInt p,.bool false,.ref L,.bool false],[]⟩
noncomputable def yh6 (t:Array Nat) (L:Addr) (n:Int):Sem Fin:=do
 let joiner ← reSlice t 0 0 0
 let text ← if ((← seqItems? (.ref L)).getD #[]).isEmpty then pure joiner
  else call (.builtin (if (0:Nat)==0 then "str.join" else "bytes.join")) [joiner,.ref L]
 if false then ret (← holding [text] do newTuple [text, ← mkInt n]) else ret text
theorem zU2 (T:List Nat) (p a:Nat):T.toArray.extract p a=((T.take a).drop p).toArray:=by
 rw [List.extract_toArray,List.extract_eq_take_drop,List.drop_take]
theorem StrsAre.snoc {vs:List Value} {ys:List Str} {y:Str} {t:Tok} (h:StrsAre vs ys):StrsAre (vs++[.str y t]) (ys++[y]):=by
 induction h with
 | nil=>exact .cons _ _ .nil
 | cons x t h ih=>exact .cons _ _ ih
theorem StrsAre.len {vs:List Value} {ys:List Str} (h:StrsAre vs ys):vs.length=ys.length:=by
 induction h with
 | nil=>rfl
 | cons x t h ih=>simp [ih]
theorem zA5 : ∀ l:List (List Nat),zb7 [] l=l.flatten
 | []=>rfl
 | [p]=>by simp [zb7]
 | p::q::r=>by
  have:=zA5 (q::r)
  simp [zb7,this]
theorem zN1 {t:Array Nat} {n:Int} {ys:List (List Nat)} {vs:Array Value} {m:Nat} {Q:Fin→Shared→Prop} (ht:t.size≤sizeLine)
  (hL:s.heap.get? L=some { cls:=.type "list",dict:=none,data:=.seq vs m,slots := #[] }) (hS:StrsAre vs.toList (ys.map fun y=>⟨y.toArray⟩)) (hz:ys.flatten.length≤sizeLine)
  (h : ∀ tk t',Q (.done (.ret (.str ⟨ys.flatten.toArray⟩ t'))) { s with toks:=tk }):wpAny (KM K) A (yh6 t L n) Q E s:=by
 unfold yh6
 refine wpAny_bind (zv3 (x:=⟨t⟩) ?_ ht)
 have e0:t.extract 0 0 = #[]:=by simp
 refine wpAny_bind (wpAny_seqItems (s:={ s with toks:=s.toks+1 }) hL rfl ?_)
 rw [Option.getD_some]
 by_cases hv:vs.isEmpty=true
 ·rw [if_pos hv]
  refine wpAny_bind (wpAny_pure ?_)
  have hy:ys=[]:=by
   have:vs.toList=[]:=by simpa using hv
   rw [this] at hS
   cases ys with
   | nil=>rfl
   | cons y ys=>cases hS
  subst hy
  have:=h (s.toks+1) s.toks
  refine wpAny_pure ?_
  show Q (.done (.ret (.str ⟨t.extract 0 0⟩ s.toks))) _
  rw [e0]; exact this
 ·rw [if_neg hv]
  refine wpAny_bind ?_
  show wpAny _ _ (call (.builtin "str.join") [.str ⟨t.extract 0 0⟩ s.toks,.ref L]) _ _ _
  rw [e0]
  refine join_list (s:={ s with toks:=s.toks+1 }) (isL hL) hS (by
   have:(ys.map fun y=>(⟨y.toArray⟩:Str)).map (·.length)=ys.map (·.length):=by simp [Str.length,Function.comp_def]
   rw [this]
   have h2:(ys.map (·.length)).sum=ys.flatten.length:=by simp [List.length_flatten]
   rw [h2,sizeLine_eq] at *
   show _+_*0≤_
   omega) fun t' k=>?_
  refine wpAny_pure ?_
  have e2:Txt.join ⟨#[]⟩ (ys.map fun y=>(⟨y.toArray⟩:Str))=⟨ys.flatten.toArray⟩:=by
   show Builtin.Str.glued _ _=_
   rw [StrLaws.glued_eq_join]
   have:=zw5 [] ys
   rw [zA5] at this
   exact this
  show Q (.done (.ret (.str (Txt.join ⟨#[]⟩ (ys.map fun y=>(⟨y.toArray⟩:Str))) t'))) _
  rw [e2]
  exact h k t'
theorem zy2 {nx:Array Nat→Nat→Nat→Option (Nat × Nat)} (N:NxOk code nx) {T repl:List Nat} {tx tr:Tok} (hT:T.length≤sizeLine) {R:Result→Shared→Prop} {p:Nat} {n:Int} {ys:List (List Nat)} {vs:Array Value} {m:Nat}
  (hn:nx T.toArray (T.length - p) p=none) (P:PatIn s.heap a code)
  (hL:s.heap.get? L=some { cls:=.type "list",dict:=none,data:=.seq vs m,slots := #[] }) (hS:StrsAre vs.toList (ys.map fun y=>⟨y.toArray⟩)) (hz:(ys.flatten++T.drop p).length≤sizeLine) (hy:ys.length≤ys.flatten.length)
  (hR : ∀ h' tk t',(∀ b,b≠L→∀ o,s.heap.get? b=some o→h'.get? b=some o)→R (.ok (.ret (.str ⟨(ys.flatten++T.drop p).toArray⟩ t'))) { s with heap:=h',toks:=tk }) :
  codeAny (KM K) A (zX8 a L T repl tx tr n p) R s:=by
 refine codeAny_builtin zj5 ?_
 unfold Builtin.«re.Pattern.sub.loop»
 show wpAny _ _ (reWholeTarget (.ref a) (.str ⟨T.toArray⟩ tx) >>= _) _ _ s
 refine wpAny_bind (zf5 P ?_)
 dsimp only
 rw [if_pos (by decide)]
 refine wpAny_bind (m:=reLiteralCannotBeTurned (.str ⟨repl.toArray⟩ tr)) (wpAny_of_eq (a:=()) rfl ?_)
 rw [if_neg (by simp)]
 refine obEA (N.search T.toArray p (by simpa using hT)) fun k hk he=>?_
 refine wpAny_bind (m:=reNextFound _ _ _) (wpAny_mono (Q:=fun r s'=>r=none∧s'=s) ?_ ?_ fun _ _ x=>x)
 ·unfold reNextFound
  rw [Int.toNat_natCast]
  have e:T.toArray.size - p=T.length - p:=by simp
  rw [e,hn] at he
  exact zp0 he hk ⟨rfl,rfl⟩
 rintro r s' ⟨rfl,rfl⟩
 dsimp only
 by_cases hp:p<T.length
 ·rw [if_pos (by simpa using hp)]
  rw [Int.toNat_natCast]
  refine wpAny_bind (zv3 (x:=⟨T.toArray⟩) ?_ (by simpa [Str.length] using hT))
  refine wpAny_bind (zv4 (s:={ s' with toks:=s'.toks+1 }) hL ?_ fun h' m' hL' hs'=>?_)
  ·have h1:vs.size=ys.length:=by simpa using StrsAre.len hS
   rw [List.length_append] at hz
   omega
  ·have e1:T.toArray.extract p T.toArray.size=(T.drop p).toArray:=by
    rw [zU2]; simp
   refine zN1 (ys:=ys++[T.drop p]) (s:={ s' with heap:=h',toks:=s'.toks+1 }) (by simpa using hT) hL' ?_ (by simpa using hz) fun tk t'=>?_
   ·rw [e1,List.map_append,Array.toList_push]
    exact StrsAre.snoc hS
   ·have e2:(ys++[T.drop p]).flatten=ys.flatten++T.drop p:=by simp
    rw [e2]
    exact hR h' tk t' fun b hb o ho=>(hs'.2 b hb).trans ho
 ·rw [if_neg (by simpa using hp)]
  have hd:T.drop p=[]:=List.drop_eq_nil_of_le (by exact Nat.le_of_not_lt ‹_›)
  rw [hd,List.append_nil] at hz hR
  exact zN1 (by simpa using hT) hL hS hz fun tk t'=>hR _ _ _ fun b _ o h=>h
theorem zN6 {nx:Array Nat→Nat→Nat→Option (Nat × Nat)} (N:NxOk code nx) {T repl:List Nat} {tx tr:Tok} (hT:T.length≤sizeLine) {R:Result→Shared→Prop} {p q e:Nat} {n:Int} {ys:List (List Nat)} {vs:Array Value} {m:Nat}
  (hn:nx T.toArray (T.length - p) p=some (q,e)) (P:PatIn s.heap a code)
  (hL:s.heap.get? L=some { cls:=.type "list",dict:=none,data:=.seq vs m,slots := #[] }) (hS:StrsAre vs.toList (ys.map fun y=>⟨y.toArray⟩)) (hz:ys.length+2≤sizeLine)
  (hR : ∀ (s':Shared) (vs':Array Value) (m':Nat) (zs:List (List Nat)),(∃ h' tk,s' = { s with heap:=h',toks:=tk })→(∀ b,b≠L→∀ o,s.heap.get? b=some o→s'.heap.get? b=some o)→s'.heap.get? L=some { cls:=.type "list",dict:=none,data:=.seq vs' m',slots := #[] } →
   (zs=(if p<q then [(T.take q).drop p] else [])++[repl]) →
   StrsAre vs'.toList ((ys++zs).map fun y=>⟨y.toArray⟩)→codeAny (KM K) A (zX8 a L T repl tx tr (n+1) e) R s') :
  codeAny (KM K) A (zX8 a L T repl tx tr n p) R s:=by
 (have zq:=N.ord T.toArray (T.length - p) p q e (by simp) hn; have ho1:=zq.1; have ho2:=zq.2.1; have ho3:=zq.2.2)
 refine codeAny_builtin zj5 ?_
 unfold Builtin.«re.Pattern.sub.loop»
 show wpAny _ _ (reWholeTarget (.ref a) (.str ⟨T.toArray⟩ tx) >>= _) _ _ s
 refine wpAny_bind (zf5 P ?_)
 dsimp only
 rw [if_pos (by decide)]
 refine wpAny_bind (m:=reLiteralCannotBeTurned (.str ⟨repl.toArray⟩ tr)) (wpAny_of_eq (a:=()) rfl ?_)
 rw [if_neg (by simp)]
 refine obEA (N.search T.toArray p (by simpa using hT)) fun k hk he=>?_
 refine wpAny_bind (m:=reNextFound _ _ _) (wpAny_mono (Q:=fun r s'=>(∃ m':Sre.M,r=some m'∧m'.start=q∧m'.handed=e)∧s'=s) ?_ ?_ fun _ _ x=>x)
 ·unfold reNextFound
  rw [Int.toNat_natCast]
  have e:T.toArray.size - p=T.length - p:=by simp
  rw [e,hn] at he
  exact zp0 he hk fun m' h1 h2=>⟨⟨m',rfl,h1,h2⟩,rfl⟩
 rintro r s' ⟨⟨m',rfl,hms,hmh⟩,rfl⟩
 dsimp only
 rw [hms,hmh,Int.toNat_natCast]
 have hbe:((e==q):Bool)=false:=by simp; exact Nat.ne_of_gt ‹_›
 have hne:((Value.str ⟨repl.toArray⟩ tr != Value.none)=true):=by rfl
 have hlen:vs.size=ys.length:=by simpa using StrsAre.len hS
 by_cases hp:p<q
 ·rw [if_pos hp]
  refine wpAny_bind (zv3 (x:=⟨T.toArray⟩) ?_ (by simpa [Str.length] using hT))
  refine wpAny_bind (zv4 (s:={ s' with toks:=s'.toks+1 }) hL (by omega) fun h1 m1 hL1 hs1=>?_)
  rw [if_pos (by decide)]
  refine wpAny_bind (wpAny_pure ?_)
  rw [if_pos hne]
  refine wpAny_bind (zv4 (s:={ s' with heap:=h1,toks:=s'.toks+1 }) hL1 (by simp; omega) fun h2 m2 hL2 hs2=>?_)
  refine wpAny_pure ⟨zl8 _,?_⟩
  rw [hbe]
  refine hR _ _ _ _ ⟨h2,s'.toks+1,rfl⟩ (fun b hb o ho=>((hs2.2 b hb).trans ((hs1.2 b hb).trans ho))) hL2 rfl ?_
  rw [if_pos hp]
  have e1:T.toArray.extract p q=((T.take q).drop p).toArray:=zU2 T p q
  show StrsAre ((vs.push (.str ⟨T.toArray.extract p q⟩ s'.toks)).push (.str ⟨repl.toArray⟩ tr)).toList _
  rw [e1,Array.toList_push,Array.toList_push]
  have:=StrsAre.snoc (y:=⟨repl.toArray⟩) (t:=tr) (StrsAre.snoc (y:=⟨((T.take q).drop p).toArray⟩) (t:=s'.toks) hS)
  simpa using this
 ·rw [if_neg hp,if_pos (by decide)]
  refine wpAny_bind (wpAny_pure ?_)
  rw [if_pos hne]
  refine wpAny_bind (zv4 hL (by omega) fun h2 m2 hL2 hs2=>?_)
  refine wpAny_pure ⟨zl8 _,?_⟩
  rw [hbe]
  refine hR _ _ _ _ ⟨h2,s'.toks,rfl⟩ (fun b hb o ho=>(hs2.2 b hb).trans ho) hL2 rfl ?_
  rw [if_neg hp]
  show StrsAre (vs.push (.str ⟨repl.toArray⟩ tr)).toList _
  rw [Array.toList_push]
  have:=StrsAre.snoc (y:=⟨repl.toArray⟩) (t:=tr) hS
  simpa using this
theorem zJ6 {nx:Array Nat→Nat→Nat→Option (Nat × Nat)} (N:NxOk code nx) {T repl:List Nat} {tx tr:Tok} (hT:T.length≤sizeLine) (hr:repl≠[]) {R:Result→Shared→Prop} :
  ∀ (f p:Nat) (n:Int) (s:Shared) (ys:List (List Nat)) (vs:Array Value) (m:Nat),T.length - p≤f→PatIn s.heap a code →
  s.heap.get? L=some { cls:=.type "list",dict:=none,data:=.seq vs m,slots := #[] }→StrsAre vs.toList (ys.map fun y=>⟨y.toArray⟩)→(ys.flatten++zd3 nx T repl f p).length+2≤sizeLine→ys.length≤ys.flatten.length →
  (∀ h' tk t',(∀ b,b≠L→∀ o,s.heap.get? b=some o→h'.get? b=some o)→R (.ok (.ret (.str ⟨(ys.flatten++zd3 nx T repl f p).toArray⟩ t'))) { s with heap:=h',toks:=tk }) →
  codeAny (KM K) A (zX8 a L T repl tx tr n p) R s:=by
 intro f
 induction f with
 | zero =>
  intro p n s ys vs m hf P hL hS hz hy hR
  have hn:nx T.toArray (T.length - p) p=none:=by
   cases h:nx T.toArray (T.length - p) p with
   | none=>rfl
   | some r =>
    obtain ⟨q,e⟩:=r
    (have zq:=N.ord T.toArray (T.length - p) p q e (by simp) h; have h1:=zq.1; have h2:=zq.2.1; have h3:=zq.2.2)
    simp at h3; omega
  exact zy2 N hT hn P hL hS (by simp only [zd3] at hz; omega) hy hR
 | succ f ih =>
  intro p n s ys vs m hf P hL hS hz hy hR
  unfold zd3 at hz hR
  cases hn:nx T.toArray (T.length - p) p with
  | none =>
   rw [hn] at hz hR
   exact zy2 N hT hn P hL hS (by dsimp only at hz; omega) hy hR
  | some r =>
   obtain ⟨q,e⟩:=r
   rw [hn] at hz hR
   dsimp only at hz hR
   (have zq:=N.ord T.toArray (T.length - p) p q e (by simp) hn; have h1:=zq.1; have h2:=zq.2.1; have h3:=zq.2.2)
   simp only [List.length_append] at hz
   refine zN6 N hT hn P hL hS (by omega) fun s' vs' m' zs ⟨h',tk,hs'⟩ hk hL' hzs hS'=>?_
   have hzf:zs.flatten=(T.take q).drop p++repl:=by
    rw [hzs]
    split
    ·simp
    ·rename_i hpq
     have:(T.take q).drop p=[]:=List.drop_eq_nil_of_le (by simp; omega)
     rw [this]; simp
   have hout:(ys++zs).flatten++zd3 nx T repl f e=ys.flatten++((T.take q).drop p++(repl++zd3 nx T repl f e)):=by
    rw [List.flatten_append,hzf]; simp
   refine ih e (n+1) s' (ys++zs) vs' m' (by omega) (P.but hL rfl hk) hL' hS' ?_ ?_ fun h'' tk' t' hk'=>?_
   ·rw [hout]; simp only [List.length_append]; omega
   ·have hr':0<repl.length:=List.length_pos_iff.mpr hr
    rw [List.flatten_append,hzf,List.length_append,List.length_append,List.length_append,hzs]
    split
    ·rename_i hpq
     simp only [List.length_append,List.length_cons,List.length_nil,List.length_drop,List.length_take]
     simp at h3
     omega
    ·simp only [List.length_append,List.length_cons,List.length_nil]
     omega
   ·rw [hout]
    have:=hR h'' tk' t' fun b hb o ho=>hk' b hb o (hk b hb o ho)
    subst hs'
    exact this
end
end Mine
namespace Mine
open PySem.Builtin.Re
theorem zD0:typeLookup (.type "str") "__call__" = pure none:=by rw [typeLookup_type,builtinLookup_eq_fast]; kernel_rfl
theorem zC0 (a b c:Value):argsOk "re.Pattern.sub" ⟨[a,b,c],[]⟩:=by
 unfold argsOk; rw [yc8]; first | kernel_rfl | rfl
section
variable {K:Kc} {n:Nat} {env:Env} {ρ:Lo} {σ σ' σ₁ σ₂ σ₃:List (Addr × O)}
theorem PatIn.typeIs {s:Shared} {a:Addr} {code:List Nat} (P:PatIn s.heap a code):s.TypeIs (.ref a) "re.Pattern" := by
 refine zP8 P fun o vs tp ot m h1 h2 _=>?_
 exact ⟨o,h1,h2⟩
theorem Fn.sub {a:Addr} {code T repl:List Nat} {nx:Array Nat→Nat→Nat→Option (Nat × Nat)} (N:NxOk code nx) (P:PatIn K.s₀.heap a code) (hr:repl≠[]) (h92:repl.toArray.contains 92=false)
  (hz:(zd3 nx T repl T.length 0).length+2≤sizeLine):Fn K n (.builtin "re.Pattern.sub") [.w (.glob (.ref a)),.w (.str repl),.w (.str T)] σ (.w (.str (zd3 nx T repl T.length 0))) σ:=.mk fun A E s Q g env ρ us F R hu h=>by
 simp only [RVs,RV,RW] at hu
 (refine zj4 hu fun u1 r1 zq2 zq3 u2 r2 zq6 zq7 u3 r3 zq10 zq11 zq12=>?_; subst zq2; subst zq3; subst zq6; obtain ⟨hz2,tr,rfl⟩:=zq7; subst zq10; obtain ⟨hz3,tx,rfl⟩:=zq11; subst zq12)
 have P1:=P.keeps R.keeps
 refine wpAny_call (codeAny_call_builtin slot_pat_sub.plain zw7 (slot_pat_sub.check _ _ _ _ _ _ _ _ P1.typeIs (zC0 _ _ _) ?_))
 unfold Builtin.«re.Pattern.sub» reSubstitute
 dsimp only
 refine wpAny_bind (m:=reNamed _ _ _ _ _ _) (wpAny_of_eq (a:=[some (.str ⟨repl.toArray⟩ tr),some (.str ⟨T.toArray⟩ tx),none]) (by rfl) ?_)
 dsimp only
 refine wpAny_bind (wpAny_pure ?_)
 refine wpAny_bind (wpAny_specialOf (typeIs_str _ _ _) zD0 ?_)
 rw [if_neg (by decide)]
 refine wpAny_bind (m:=asStr? (.str ⟨repl.toArray⟩ tr)) (wpAny_of_eq (a:=some ⟨repl.toArray⟩) rfl ?_)
 dsimp only
 refine wpAny_bind (wpAny_pure ?_)
 rw [if_neg (by decide)]
 rw [h92,if_pos (by decide)]
 refine wpAny_bind (wpAny_pure ?_)
 dsimp only
 refine wpAny_bind (wpAny_holding (zf5 P1 ?_))
 rw [if_neg (by decide)]
 refine wpAny_bind (wpAny_newList ?_ (by rw [sizeLine_eq]; simp))
 refine wpAny_pure ⟨zl8 _,?_⟩
 have ho:=Heap.get?_push_size s.heap (o:={ cls:=.type "list",data:=.seq ([]:List Value).toArray }) rfl
 have P2:PatIn (s.heap.push { cls:=.type "list",data:=.seq ([]:List Value).toArray }) a code:=P1.keeps fun b o e=>Heap.get?_push_of_some _ e
 refine zJ6 (a:=a) (L:=s.heap.objs.size) (code:=code) N hz3 hr T.length 0 0 _ [] #[] 0 (by exact Nat.sub_le _ _) P2 ho .nil (by simpa using hz) (by simp) fun h' tk t' hk=>?_
 have R1:Rep K g env ρ σ { s with heap:=h',toks:=tk }:=R.heap fun b t o hb he=>hk b (Nat.ne_of_lt (R.lt hb)) o (Heap.get?_push_of_some _ he)
 refine h g _ _ (.refl _) R1 ?_
 simp only [RV,RW]
 exact ⟨by lia,t',by simp⟩
theorem Ev.subG {x:Str} {p apos pos:Pos} {es:List Expr} {a:Addr} {code T repl:List Nat} {nx:Array Nat→Nat→Nat→Option (Nat × Nat)} (hk:env.kindOf x=some .globalImplicit) (hx:K.mg x=some (.ref a)) (N:NxOk code nx) (P:PatIn K.s₀.heap a code)
  (hr:repl≠[]) (h92:repl.toArray.contains 92=false) (hz:(zd3 nx T repl T.length 0).length+2≤sizeLine) (h2:Evs K n env ρ es σ [.w (.str repl),.w (.str T)] σ₂)
  (hd:(x==("__debug__" : Str))=false:=by kernel_rfl) (hbase:attributeBase (.Name x p) ("sub" : Str) env (eval (.Name x p) env)=eval (.Name x p) env:=by rfl) (hlen:es.length+0<30:=by decide) (hline:(apos.endLine==pos.line)=true:=by rfl)
  (hp:(starEach es env).any (·.1)=false:=by rfl):Ev K n env ρ (.Call (.Attribute (.Name x p) ("sub" : Str) apos) es [] pos) σ (.w (.str (zd3 nx T repl T.length 0))) σ₂:=.mk fun A E s Q g F R h=>by
 refine wpAny_Call_method_late hbase ?_ hline rfl ?_
 ·have e:((backTo pos (starEach es env)).all fun x=>!x.1)=true:=by
   rw [List.all_eq_not_any_not]; simp only [Bool.not_not]; rw [za5,hp]; rfl
  rw [e,Bool.true_and]
  show (true&&decide (es.length+0+0<30))=true
  simpa using hlen
 ·refine Ev.glob (w:=.glob (.ref a)) (u:=.ref a) hk hx (fun g _=>by simp only [RW]) hd F R fun g1 s1 u l1 R1 r1=>?_
  have r1':=r1
  simp only [RV,RW] at r1; subst r1
  have P1:=P.keeps R1.keeps
  refine ⟨"re.Pattern","re.Pattern.sub",zs6,slot_pat_sub,zx9,P1.typeIs,(fun b e=>?_),?_⟩
  ·cases e
   refine zK5 P1 fun o vs tp ot m q1 q2 q3 _=>?_
   exact ⟨o,q1,q3⟩
  refine za6 (.builtin "re.Pattern.sub") (by rw [za5]; exact hp) ?_
  exact h2 F R1 fun g2 s2 us l2 R2 r2=>⟨R2.keeps,(Fn.sub N P hr h92 hz) F R2 ⟨_,us,rfl,by simp only [RV,RW],r2⟩ fun g3 s3 u l3 R3 r3=>h _ _ _ ((l1.trans l2).trans l3) R3 r3⟩
theorem zE4 (t:Array Nat) : ∀ (f p a e:Nat),f=t.size - p→nx1 t f p=some (a,e)→p≤a∧a<e∧e≤t.size
 | 0,_,_,_,_,h=>by simp [nx1] at h
 | f+1,p,a,e,hf,h=>by
  unfold nx1 at h
  split at h
  ·simp at h; lia
  ·have:=zE4 t f (p+1) a e (by omega) h; lia
theorem zE3 (t:Array Nat) : ∀ (f p a e:Nat),f=t.size - p→nx2 t f p=some (a,e)→p≤a∧a<e∧e≤t.size
 | 0,_,_,_,_,h=>by simp [nx2] at h
 | f+1,p,a,e,hf,h=>by
  unfold nx2 at h
  split at h
  ·simp at h
   have:len2 t p≤2∧1≤len2 t p∧(len2 t p=2→p+1<t.size):=by
    unfold len2; split
    ·rename_i hh; exact ⟨by exact Nat.le_refl _,by exact Nat.succ_pos _,fun _=>hh.2.1⟩
    ·exact ⟨by lia,by exact Nat.succ_pos _,fun h=>by contradiction⟩
   lia
  ·have:=zE3 t f (p+1) a e (by lia) h; lia
noncomputable def rl1:List Nat:=[14,4,0,1,1,6,1,16,46,1]
noncomputable def rl2:List Nat:=[14,9,4,1,2,16,10,16,13,0,7,7,16,13,16,10,15,18,5,16,10,15,13,11,16,13,5,5,0,16,10,1,15,2,0,1]
theorem nxOk1:NxOk rl1 nx1 where
 search:=fun t p ht=>by
  refine obEA (yd0 t p) fun n h1 h2=>?_
  rw [sizeLine_eq] at ht
  exact ⟨n,by lia,h2⟩
 ord:=zE4
theorem nxOk2:NxOk rl2 nx2 where
 search:=fun t p ht=>by
  refine obEA (yc9 t p) fun n h1 h2=>?_
  exact ⟨n,by exact Nat.le_trans ‹_› (by decide),h2⟩
 ord:=zE3
end
noncomputable def zd8:Bool→List Nat→List Nat
 | _,[]=>[]
 | sk,c::r=>if c=10 then (if sk=true then zd8 false r else 13::10::zd8 false r) else if c=13 then 13::10::zd8 true r else c::zd8 false r
noncomputable def crlf (T:List Nat):List Nat:=zd8 false T
noncomputable def dots:Bool→List Nat→List Nat
 | _,[]=>[]
 | b,c::r=>(if b=true∧c=46 then [46,46] else [c])++dots (decide (c=10)) r
end Mine
namespace Mine
theorem zi6 (T:List Nat) (k:Nat):T.toArray.getD k 0=T.getD k 0:=by simp [List.getD]
theorem zg0 {T:List Nat} {p:Nat} (h:p<T.length):T.drop p=T.getD p 0::T.drop (p+1):=by
 rw [List.drop_eq_getElem_cons h]; simp [List.getD,h]
theorem zG5 {T:List Nat} {p a:Nat} (h:p<a) (ha:a≤T.length):(T.take a).drop p=T.getD p 0::(T.take a).drop (p+1):=by
 rw [zg0 (T:=T.take a) (by simp; lia)]
 congr 1
 simp [List.getD,List.getElem?_take,h]
noncomputable def bol (T:List Nat) (p:Nat):Bool:=decide (p=0)||decide (T.getD (p - 1) 0=10)
theorem zH9 (T:List Nat) (p:Nat):hit1 T.toArray p=(decide (T.getD p 0=46)&&bol T p):=by
 unfold hit1 bol; rw [zi6,zi6]
theorem zI9 (T:List Nat) (p:Nat):bol T (p+1)=decide (T.getD p 0=10):=by simp [bol]
theorem zH5 {T:List Nat} : ∀ (f p a e:Nat),nx1 T.toArray f p=some (a,e)→e=a+1∧p≤a∧hit1 T.toArray a=true∧∀ k,p≤k→k<a→hit1 T.toArray k=false
 | 0,p,a,e,h=>by simp [nx1] at h
 | f+1,p,a,e,h=>by
  unfold nx1 at h
  by_cases hh:hit1 T.toArray p=true
  ·rw [if_pos hh] at h; simp at h
   (have zq0:=h.1; have zq1:=h.2; subst zq0; subst zq1)
   exact ⟨rfl,Nat.le_refl _,hh,fun k h1 h2=>by lia⟩
  ·rw [if_neg hh] at h
   (have zq:=zH5 f (p+1) a e h; have q1:=zq.1; have q2:=zq.2.1; have q3:=zq.2.2.1; have q4:=zq.2.2.2)
   refine ⟨q1,by exact Nat.le_of_lt ‹_›,q3,fun k h1 h2=>?_⟩
   by_cases hk:k=p
   ·subst hk; simpa using hh
   ·exact q4 k (by lia) h2
theorem zH6 {T:List Nat} : ∀ (f p:Nat),nx1 T.toArray f p=none→∀ k,p≤k→k<p+f→hit1 T.toArray k=false
 | 0,p,h,k,h1,h2=>by lia
 | f+1,p,h,k,h1,h2=>by
  unfold nx1 at h
  by_cases hh:hit1 T.toArray p=true
  ·rw [if_pos hh] at h; cases h
  ·rw [if_neg hh] at h
   by_cases hk:k=p
   ·subst hk; simpa using hh
   ·exact zH6 f (p+1) h k (by lia) (by lia)
theorem zr2 {T:List Nat} : ∀ (d p a:Nat),a=p+d→a≤T.length→(∀ k,p≤k→k<a→hit1 T.toArray k=false)→dots (bol T p) (T.drop p)=(T.take a).drop p++dots (bol T a) (T.drop a)
 | 0,p,a,h,ha,hk=>by
  have e:(T.take a).drop p=[]:=List.drop_eq_nil_of_le (by simp; lia)
  have:a=p:=by trivial
  rw [e,this]; rfl
 | d+1,p,a,h,ha,hk=>by
  have h0:=hk p (Nat.le_refl _) (by lia)
  rw [zH9] at h0
  rw [zg0 (show p<T.length by lia),zG5 (show p<a by lia) ha]
  show (if bol T p=true∧T.getD p 0=46 then [46,46] else [T.getD p 0])++dots (decide (T.getD p 0=10)) (T.drop (p+1))=_
  rw [if_neg (by rintro ⟨h1,h2⟩; rw [h1,h2] at h0; cases h0)]
  have ih:=zr2 (T:=T) d (p+1) a (by lia) ha fun k h1 h2=>hk k (by exact Nat.le_of_lt ‹_›) h2
  rw [zI9] at ih
  rw [ih]; rfl
theorem zN8 {T:List Nat} : ∀ (f p:Nat),T.length - p≤f→p≤T.length→zd3 nx1 T [46,46] f p=dots (bol T p) (T.drop p)
 | 0,p,hf,hp=>by
  have e:T.drop p=[]:=List.drop_eq_nil_of_le (by lia)
  unfold zd3; rw [e]; rfl
 | f+1,p,hf,hp=>by
  unfold zd3
  cases hn:nx1 T.toArray (T.length - p) p with
  | none =>
   have:=zH6 _ _ hn
   have k:=zr2 (T:=T) (T.length - p) p T.length (by exact (Nat.add_sub_cancel' ‹_›).symm) (Nat.le_refl _) fun k h1 h2=>this k h1 (by lia)
   rw [k]; simp [dots]
  | some r =>
   obtain ⟨a,e⟩:=r
   (have zq:=zH5 _ _ _ _ hn; have zq0:=zq.1; have q2:=zq.2.1; have q3:=zq.2.2.1; have q4:=zq.2.2.2; subst zq0)
   (have zq:=zE4 T.toArray (T.length - p) p a (a+1) (by simp) hn; have h3:=zq.2.2)
   have h3':a+1≤T.length:=by simpa using h3
   have k:=zr2 (T:=T) (a - p) p a (by exact (Nat.add_sub_cancel' ‹_›).symm) (by exact Nat.le_of_lt ‹_›) q4
   rw [k]
   rw [zH9] at q3
   rw [Bool.and_eq_true,decide_eq_true_eq] at q3
   rw [zg0 (show a<T.length by assumption)]
   show _=_++((if bol T a=true∧T.getD a 0=46 then [46,46] else [T.getD a 0])++dots (decide (T.getD a 0=10)) (T.drop (a+1)))
   rw [if_pos ⟨q3.2,q3.1⟩]
   dsimp only
   rw [zN8 f (a+1) (by lia) h3',zI9]
theorem zy4 (T:List Nat):zd3 nx1 T [46,46] T.length 0=dots true T:=by
 rw [zN8 T.length 0 (by exact Nat.sub_le _ _) (by exact Nat.zero_le _)]; rfl
noncomputable def nl (T:List Nat) (k:Nat):Prop:=T.getD k 0=10∨T.getD k 0=13
theorem zH3 {T:List Nat} : ∀ (f p a e:Nat),nx2 T.toArray f p=some (a,e)→e=a+len2 T.toArray a∧p≤a∧nl T a∧∀ k,p≤k→k<a→¬ nl T k
 | 0,p,a,e,h=>by simp [nx2] at h
 | f+1,p,a,e,h=>by
  unfold nx2 at h
  rw [zi6] at h
  by_cases hh:T.getD p 0=10∨T.getD p 0=13
  ·rw [if_pos hh] at h; simp at h
   (have zq0:=h.1; have zq1:=h.2; subst zq0; subst zq1)
   exact ⟨rfl,Nat.le_refl _,hh,fun k h1 h2=>by lia⟩
  ·rw [if_neg hh] at h
   (have zq:=zH3 f (p+1) a e h; have q1:=zq.1; have q2:=zq.2.1; have q3:=zq.2.2.1; have q4:=zq.2.2.2)
   refine ⟨q1,by exact Nat.le_of_lt ‹_›,q3,fun k h1 h2=>?_⟩
   by_cases hk:k=p
   ·subst hk; exact hh
   ·exact q4 k (by lia) h2
theorem zH4 {T:List Nat} : ∀ (f p:Nat),nx2 T.toArray f p=none→∀ k,p≤k→k<p+f→¬ nl T k
 | 0,p,h,k,h1,h2=>by lia
 | f+1,p,h,k,h1,h2=>by
  unfold nx2 at h
  rw [zi6] at h
  by_cases hh:T.getD p 0=10∨T.getD p 0=13
  ·rw [if_pos hh] at h; cases h
  ·rw [if_neg hh] at h
   by_cases hk:k=p
   ·subst hk; exact hh
   ·exact zH4 f (p+1) h k (by lia) (by lia)
theorem zL7 {c:Nat} {r:List Nat} (h1:c≠10) (h2:c≠13):crlf (c::r)=c::crlf r:=by
 show zd8 false (c::r)=_
 unfold zd8; rw [if_neg h1,if_neg h2]; rfl
theorem yg8 (r:List Nat):crlf (10::r)=13::10::crlf r:=rfl
theorem zU4 (r:List Nat):crlf (13::10::r)=13::10::crlf r:=rfl
theorem yg7 {r:List Nat} (h:r.head? ≠ some 10):crlf (13::r)=13::10::crlf r:=by
 cases r with
 | nil=>rfl
 | cons c r =>
  have hc:c≠10:=by simpa using h
  show 13::10::zd8 true (c::r)=13::10::zd8 false (c::r)
  unfold zd8; rw [if_neg hc,if_neg hc]
theorem zr3 {T:List Nat} : ∀ (d p a:Nat),a=p+d→a≤T.length→(∀ k,p≤k→k<a→¬ nl T k)→crlf (T.drop p)=(T.take a).drop p++crlf (T.drop a)
 | 0,p,a,h,ha,hk=>by
  have e:(T.take a).drop p=[]:=List.drop_eq_nil_of_le (by simp; lia)
  have:a=p:=by lia
  rw [e,this]; rfl
 | d+1,p,a,h,ha,hk=>by
  have h0:=hk p (Nat.le_refl _) (by lia)
  unfold nl at h0
  rw [zg0 (show p<T.length by lia),zG5 (show p<a by lia) ha,zL7 (by lia) (by lia),zr3 (T:=T) d (p+1) a (by lia) ha fun k h1 h2=>hk k (by lia) h2]
  rfl
theorem zN7 {T:List Nat} : ∀ (f p:Nat),T.length - p≤f→p≤T.length→zd3 nx2 T [13,10] f p=crlf (T.drop p)
 | 0,p,hf,hp=>by
  have e:T.drop p=[]:=List.drop_eq_nil_of_le (by lia)
  unfold zd3; rw [e]; rfl
 | f+1,p,hf,hp=>by
  unfold zd3
  cases hn:nx2 T.toArray (T.length - p) p with
  | none =>
   have:=zH4 _ _ hn
   have k:=zr3 (T:=T) (T.length - p) p T.length (by lia) (Nat.le_refl _) fun k h1 h2=>this k h1 (by lia)
   rw [k]; simp [crlf,zd8]
  | some r =>
   obtain ⟨a,e⟩:=r
   (have zq:=zH3 _ _ _ _ hn; have zq0:=zq.1; have q2:=zq.2.1; have q3:=zq.2.2.1; have q4:=zq.2.2.2; subst zq0)
   (have zq:=zE3 T.toArray (T.length - p) p a _ (by simp) hn; have h3:=zq.2.2)
   have h3':a+len2 T.toArray a≤T.length:=by simpa using h3
   have hl1:1≤len2 T.toArray a:=by unfold len2; split <;> exact Nat.succ_pos _
   have k:=zr3 (T:=T) (a - p) p a (by lia) (by lia) q4
   rw [k]
   dsimp only
   rw [zN7 f _ (by lia) h3',zg0 (show a<T.length by lia)]
   congr 1
   unfold len2
   rw [zi6,zi6]
   rcases q3 with h | h
   ·rw [if_neg (by lia),h,yg8]; rfl
   ·by_cases hh:a+1<T.length∧T.getD (a+1) 0=10
    ·rw [if_pos ⟨h,by simpa using hh.1,hh.2⟩,h,zg0 hh.1,hh.2,zU4]; rfl
    ·rw [if_neg (fun q=>hh ⟨by simpa using q.2.1,q.2.2⟩),h,yg7]
     ·rfl
     ·intro hd
      rw [List.head?_drop] at hd
      obtain ⟨hlt,he⟩:=List.getElem?_eq_some_iff.mp hd
      exact hh ⟨hlt,by simp [List.getD,hlt,he]⟩
theorem zy3 (T:List Nat):zd3 nx2 T [13,10] T.length 0=crlf T:=by
 rw [zN7 T.length 0 (by lia) (by lia)]; rfl
theorem zr4 : ∀ (b:Bool) (T:List Nat),(zd8 b T).length≤2*T.length
 | _,[]=>by simp [zd8]
 | b,c::r=>by
  have h1:=zr4 false r
  have h2:=zr4 true r
  unfold zd8
  split
  ·split <;> simp <;> lia
  ·split <;> simp <;> lia
theorem ya5 (T:List Nat):(crlf T).length≤2*T.length:=zr4 false T
theorem zI7 : ∀ (b:Bool) (T:List Nat),(dots b T).length≤2*T.length
 | _,[]=>by simp [dots]
 | b,c::r=>by
  have:=zI7 (decide (c=10)) r
  unfold dots
  split <;> simp <;> lia
end Mine
namespace Mine
structure LexK (K:Kc) (mN:Str→Option Value):Prop where
 cls : ∃ nm q N bs sn sub col dd k0 k1 k2 k3 k5,K.s₀.heap.get? K.lexC=some (excClassObj nm q K.lexC N bs [.type "object"] true sn sub false col dd k0 k1 k2 k3 k5 "object.__new__")∧K.s₀.heap.Ns N mN
 ga:mN "__getattribute__" = none
 gh:mN "__getattr__" = none
 sa:mN "__setattr__" = none
 line:mN "lineno" = none
 ins:mN "instream" = none
 ws:mN "whitespace" = none
 pb:mN "pushback" = none
 rd:mN "_read_char" = some (.ref K.lexR)
theorem zo1:typeLookup (.type "object") "lineno" = pure none:=by rw [typeLookup_type,builtinLookup_eq_fast]; kernel_rfl
theorem zP7:typeLookup (.type "object") "instream" = pure none:=by rw [typeLookup_type,builtinLookup_eq_fast]; kernel_rfl
theorem yb5:typeLookup (.type "object") "whitespace" = pure none:=by rw [typeLookup_type,builtinLookup_eq_fast]; kernel_rfl
theorem zH2:typeLookup (.type "object") "pushback" = pure none:=by rw [typeLookup_type,builtinLookup_eq_fast]; kernel_rfl
theorem zH0:typeLookup (.type "object") "_read_char" = pure none:=by rw [typeLookup_type,builtinLookup_eq_fast]; kernel_rfl
theorem zD9:typeLookup (.type "object") "get_token" = pure none:=by rw [typeLookup_type,builtinLookup_eq_fast]; kernel_rfl
theorem zH1:typeLookup (.type "object") "push_token" = pure none:=by rw [typeLookup_type,builtinLookup_eq_fast]; kernel_rfl
theorem zp8 {l t1 f t2 p}:zb5 l t1 f t2 p "lineno" = some (.int l t1):=rfl
theorem zL3 {l t1 f t2 p}:zb5 l t1 f t2 p "instream" = some (.ref f):=by unfold zb5; rw [if_neg (by decide +kernel),if_pos rfl]
theorem zR2 {l t1 f t2 p}:zb5 l t1 f t2 p "whitespace" = some (.str ⟨#[10,9,13,32]⟩ t2):=by unfold zb5; rw [if_neg (by decide +kernel),if_neg (by decide +kernel),if_pos rfl]
theorem zp7 {l t1 f t2 p}:zb5 l t1 f t2 p "pushback" = some (.ref p):=by unfold zb5; rw [if_neg (by decide +kernel),if_neg (by decide +kernel),if_neg (by decide +kernel),if_pos rfl]
section
variable {K:Kc} {n m:Nat} {env cenv ce:Env} {ρ ρ' ρ₁ ρ₂ ρ₃ ρ₀ ρc:Lo} {σ σ' σ₀ σ₁ σ₂ σ₃:List (Addr × O)} {g g₀ g₁ g₂ g₄:Gh} {s s₀ s' s₄:Shared} {A:Around} {items:List W} {mN:Str→Option Value}
theorem Rep.lex (R:Rep K g env ρ σ s) {a:Addr} {full place line push} (hm:(a,O.lex full place line push)∈σ) : ∃ t,LexAt K g s.heap a t full place line push:=R.ob a _ hm
theorem zk1 (LK:LexK K mN) (R:Rep K g env ρ σ s) {E:Value→Shared→Prop} {Q:Value→Shared→Prop} {a:Addr} {mA:Str→Option Value} {name:Str} {v:Value} {expr:Bool} (I:s.heap.InstFk a K.lexC mA)
  (h1:mN name=none) (h2:typeLookup (.type "object") name=pure none) (h3:mA name=some v) (h4:handedOut v=pure v) (h : ∀ tk,Q v { s with toks:=tk }):wpAny (KM K) A (getAttr (.ref a) name expr) Q E s:=by
 refine zb3 LK.cls fun nm q N bs sn sub col dd k0 k1 k2 k3 k5 hC hN=>?_
 have hC':=R.keeps _ _ hC
 have hN':=hN.keeps R.keeps
 obtain ⟨hh,gg,d,t,os⟩:=s
 exact load_attrFk hC' hN' LK.ga h1 h2 I h3 h4 (h _)
theorem Ev.lexWs (LK:LexK K mN) {e:Expr} {x:Str} {p pos:Pos} {a:Addr} {full place line push} (h1:Ev K n env ρ (.Name x p) σ (.ref a) σ) (hm:(a,O.lex full place line push)∈σ) :
  Ev K n env ρ (.Attribute (.Name x p) ("whitespace" : Str) pos) σ (.w (.str [10,9,13,32])) σ:=.mk fun A E s Q g F R h=>by
 refine Attribute_name (h1 F R fun g1 s1 u l1 R1 r1=>?_)
 obtain rfl:=RV.refE r1
 obtain ⟨t,X⟩:=R1.lex hm
 refine obEE X.inst fun t1 t2 I=>?_
 exact zk1 LK R1 I LK.ws yb5 zR2 rfl fun tk=>h _ _ _ l1 (R1.toks tk) (by simp only [RV,RW]; exact ⟨by decide,_,rfl⟩)
theorem Ev.lexLine (LK:LexK K mN) {x:Str} {p pos:Pos} {a:Addr} {full place line push} (h1:Ev K n env ρ (.Name x p) σ (.ref a) σ) (hm:(a,O.lex full place line push)∈σ) :
  Ev K n env ρ (.Attribute (.Name x p) ("lineno" : Str) pos) σ (.w (.int line)) σ:=.mk fun A E s Q g F R h=>by
 refine Attribute_name (h1 F R fun g1 s1 u l1 R1 r1=>?_)
 obtain rfl:=RV.refE r1
 obtain ⟨t,X⟩:=R1.lex hm
 refine obEE X.inst fun t1 t2 I=>?_
 exact zk1 LK R1 I LK.line zo1 zp8 rfl fun tk=>h _ _ _ l1 (R1.toks tk) (by first | exact RW.intK | exact RV.intK)
theorem Ts.lexPb (LK:LexK K mN) {x:Str} {p pos:Pos} {a:Addr} {full place line push} (h1:Ev K n env ρ (.Name x p) σ (.ref a) σ) (hm:(a,O.lex full place line push)∈σ)
  (he : ∀ whole,isTrue (.Attribute (.Name x p) ("pushback" : Str) pos) env whole=(do let v ← whole; standAt (Expr.Attribute (.Name x p) ("pushback" : Str) pos).pos; holding [v] (truthy v)):=by intro _; rfl) :
  Ts K n env ρ (.Attribute (.Name x p) ("pushback" : Str) pos) σ (!push.isEmpty) σ:=.mk fun A E s Q g F R h=>by
 refine wpAny_isTrue_value (Attribute_name (h1 F R fun g1 s1 u l1 R1 r1=>?_)) (he _)
 obtain rfl:=RV.refE r1
 obtain ⟨t,X⟩:=R1.lex hm
 refine obEE X.inst fun t1 t2 I=>?_
 refine zk1 LK R1 I LK.pb zH2 zp7 rfl fun tk=>?_
 (refine zb2 X.pb fun ob vs ho zq3 hw=>?_; obtain ⟨m,rfl⟩:=zq3)
 have hlen:=hw.length
 have hz:=X.pbz
 rw [sizeLine_eq] at hz
 refine wpAny_truthy_list (s:={ s1 with toks:=tk }) (isL ho) (by simp at hlen; lia) ?_
 have e:(!vs.isEmpty) = !push.isEmpty:=by
  cases push with
  | nil =>
   have:vs = #[]:=by simpa using hlen
   rw [this]; rfl
  | cons y ys =>
   have:vs.isEmpty=false:=by
    cases hv:vs.isEmpty with
    | false=>rfl
    | true=>simp at hv; subst hv; simp at hlen
   rw [this]; rfl
 rw [e]
 exact h _ _ l1 (R1.toks _)
theorem Rep.lexWrite (R:Rep K g env ρ σ s) {a:Addr} {full place line push full' place' line' push'} {h':Heap} {tk:Nat} {t t':LexTab} (hs:SetO σ a (.lex full place line push) (.lex full' place' line' push') σ')
  (X:LexAt K g s.heap a t full place line push) (hk : ∀ b,b∉[a,t.d,t.p,t.f,t.fd,t.r,t.c1,t.c2,t.pl]→∀ o,s.heap.get? b=some o→h'.get? b=some o) (hl : ∀ b∈[a,t.d,t.p,t.f,t.fd,t.r,t.c1,t.c2,t.pl],∃ o,h'.get? b=some o)
  (X':LexAt K g h' a t' full' place' line' push'):Rep K g env ρ σ' { s with heap:=h',toks:=tk }:=by
 refine zc7 hs.split fun S1 S2 e1 e2=>?_
 have ha:=X.tags a (mm 0 rfl)
 subst e2
 refine R.obWriteT (o:=.lex full' place' line' push') ha e1 (fun b t' hb ht=>?_) (fun b hb=>?_) ⟨t',X'⟩
 ·obtain ⟨o,ho⟩:=R.live b _ hb
  rw [ho]
  refine hk b (fun hm=>?_) o ho
  rw [X.tags b hm] at hb; cases hb; exact ht rfl
 ·by_cases hm:b∈[a,t.d,t.p,t.f,t.fd,t.r,t.c1,t.c2,t.pl]
  ·exact hl b hm
  ·obtain ⟨o,ho⟩:=R.live b _ hb
   exact ⟨o,hk b hm o ho⟩
theorem LexAt.live {h:Heap} {a:Addr} {t:LexTab} {full place line push} (X:LexAt K g h a t full place line push) : ∀ b∈[a,t.d,t.p,t.f,t.fd,t.r,t.c1,t.c2,t.pl],∃ o,h.get? b=some o:=by
 intro b hb
 simp only [List.mem_cons,List.not_mem_nil,or_false] at hb
 refine obEA X.dd fun oa ha hda=>?_
 refine obEE X.inst fun t1 t2 I=>?_
 rcases hb with rfl | rfl | rfl | rfl | rfl | rfl | rfl | rfl | rfl
 ·exact ⟨oa,ha⟩
 ·refine zf9 I fun o h1 _ _ h4=>?_
  rw [ha] at h1; cases h1
  rcases h4 with ⟨h4,_⟩ | ⟨d,q1,q2,q3,q4⟩
  ·rw [hda] at h4; cases h4
  ·rw [hda] at q1; cases q1
   refine obEA q4 fun od r1 _=>?_
   exact ⟨od,r1⟩
 ·refine zc7 X.pb fun ob _ h1 _=>?_; exact ⟨ob,h1⟩
 ·refine obEA X.fn fun ob h1 _=>?_; exact ⟨ob,h1⟩
 ·refine zd9 X.fdict fun ob _ _ h1 _=>?_; exact ⟨ob,h1⟩
 ·refine zd9 X.rd fun ob _ _ h1 _=>?_; exact ⟨ob,h1⟩
 ·refine obEA X.cell1 fun ob h1 _=>?_; exact ⟨ob,h1⟩
 ·refine zc7 X.cell2 fun _ ob h1 _=>?_; exact ⟨ob,h1⟩
 ·refine zc7 X.place fun ob _ h1 _=>?_; exact ⟨ob,h1⟩
theorem Rep.lexOne (R:Rep K g env ρ σ s) {a c:Addr} {full place line push full' place' line' push'} {h':Heap} {tk:Nat} {t:LexTab} (hs:SetO σ a (.lex full place line push) (.lex full' place' line' push') σ')
  (X:LexAt K g s.heap a t full place line push) (hc:c∈[a,t.d,t.p,t.f,t.fd,t.r,t.c1,t.c2,t.pl]) (hk : ∀ b,b≠c→h'.get? b=s.heap.get? b) (hl : ∃ o,h'.get? c=some o)
  (X':LexAt K g h' a t full' place' line' push'):Rep K g env ρ σ' { s with heap:=h',toks:=tk } :=
 R.lexWrite hs X (fun b hb o ho=>(hk b fun e=>hb (e ▸ hc)).trans ho) (fun b hb=>by
  by_cases e:b=c
  ·subst e; exact hl
  ·obtain ⟨o,ho⟩:=X.live b hb
   exact ⟨o,(hk b e).trans ho⟩) X'
theorem LexAt.pbAt {h h':Heap} {a:Addr} {t:LexTab} {full place line push push'} (X:LexAt K g h a t full place line push) (hk : ∀ b,b≠t.p→h'.get? b=h.get? b) (hz:push'.length≤sizeLine)
  (hp : ∃ ob vs,h'.get? t.p=some ob∧zL4 "list" ob vs∧RWs g push' vs.toList):LexAt K g h' a t full place line push':=by
 have nd:=X.nd
 have n2:a≠t.p:=nda nd 0 2 (by decide) rfl rfl
 have n9:t.d≠t.p:=nda nd 1 2 (by decide) rfl rfl
 have n16:t.p≠t.f:=nda nd 2 3 (by decide) rfl rfl
 have n17:t.p≠t.fd:=nda nd 2 4 (by decide) rfl rfl
 have n18:t.p≠t.r:=nda nd 2 5 (by decide) rfl rfl
 have n19:t.p≠t.c1:=nda nd 2 6 (by decide) rfl rfl
 have n20:t.p≠t.c2:=nda nd 2 7 (by decide) rfl rfl
 have n21:t.p≠t.pl:=nda nd 2 8 (by decide) rfl rfl
 exact {
  tags:=X.tags
  nd:=X.nd
  inst:=by
   refine obEE X.inst fun t1 t2 e=>?_
   refine obEA X.dd fun o ho hd=>?_
   refine ⟨t1,t2,InstFk.eqAt e (hk a n2) fun o' d h1 h2=>?_⟩
   rw [ho] at h1; cases h1
   rw [hd] at h2; cases h2
   exact hk _ n9
  dd:=let ⟨o,ho,hd⟩:=X.dd; ⟨o,(hk a n2).trans ho,hd⟩
  pbz:=hz
  fz:=X.fz
  pb:=hp
  fn:=let ⟨ob,e1,e2⟩:=X.fn; ⟨ob,(hk _ (Ne.symm n16)).trans e1,e2⟩
  fdict:=Ns.eqAt X.fdict (hk _ (Ne.symm n17))
  rd:=let ⟨ob,fd,cc,e1,e2⟩:=X.rd; ⟨ob,fd,cc,(hk _ (Ne.symm n18)).trans e1,e2⟩
  cell1:=IsCell.eqAt X.cell1 (hk _ (Ne.symm n19))
  cell2:=let ⟨tk,e⟩:=X.cell2; ⟨tk,IsCell.eqAt e (hk _ (Ne.symm n20))⟩
  place:=let ⟨ob,tk,e,r⟩:=X.place; ⟨ob,tk,(hk _ (Ne.symm n21)).trans e,r⟩ }
theorem zm3 (R:Rep K g env ρ σ s) {E:Value→Shared→Prop} {Q:Value→Shared→Prop} {x:Str} {pos} {v:V} (hx:(x,some v)∈ρ.v) (h : ∀ u,RV g v u→Q u s) (hd:(x==("__debug__" : Str))=false:=by kernel_rfl) :
  wpAny (KM K) A (eval (.Name x pos) env) Q E s:=by
 refine wpAny_Name ?_ hd
 refine obEA R.fr.var fun m hn hv=>?_
 rcases hv x (some v) hx with ⟨h1,h2⟩ | ⟨h1,c,u,h2,h3,h4,h5⟩
 ·cases hm:m x with
  | none=>rw [hm] at h2; exact h2.elim
  | some u=>rw [hm] at h2; exact wpAny_loadName_local R.fr.kind h1 hn hm (h _ h2)
 ·cases u with
  | none=>exact h5.elim
  | some u=>exact wpAny_loadName_cell R.fr.kind h1 h2 h4 (h _ h5)
theorem Ev.lexPop (LK:LexK K mN) {x:Str} {p p1 p2 pos pk:Pos} {k} {a:Addr} {full place line} {y:W} {push:List W} (h1:Ev K n env ρ (.Name x p) σ (.ref a) σ) (hs:SetO σ a (.lex full place line (y::push)) (.lex full place line push) σ')
  (hbase:attributeBase (.Attribute (.Name x p) ("pushback" : Str) p1) ("pop" : Str) env (eval (.Attribute (.Name x p) ("pushback" : Str) p1) env)=eval (.Attribute (.Name x p) ("pushback" : Str) p1) env:=by rfl)
  (hline:(p2.endLine==pos.line)=true:=by rfl) (hst:starEach [.Constant (.int 0) k pk] env=[(false,eval (.Constant (.int 0) k pk) env)]:=by rfl) :
  Ev K n env ρ (.Call (.Attribute (.Attribute (.Name x p) ("pushback" : Str) p1) ("pop" : Str) p2) [.Constant (.int 0) k pk] [] pos) σ (.w y) σ':=.mk fun A E s Q g F R h=>by
 refine zc7 hs.split fun S1 S2 es1 es2=>?_
 have hm:(a,O.lex full place line (y::push))∈σ:=by rw [es1]; simp
 refine wpAny_Call_method_late hbase (by rw [hst]; rfl) hline rfl ?_
 refine Attribute_name (h1 F R fun g1 s1 u l1 R1 r1=>?_)
 obtain rfl:=RV.refE r1
 obtain ⟨t,X⟩:=R1.lex hm
 refine obEE X.inst fun t1 t2 I=>?_
 refine zk1 LK R1 I LK.pb zH2 zp7 rfl fun tk=>?_
 (refine zb2 X.pb fun ob vs ho zq3 hw=>?_; obtain ⟨m,rfl⟩:=zq3)
 refine ⟨"list","list.pop",PySem.F.plainAttrs_list,PySem.F.slot_list_pop,PySem.F.type_list_pop,(isL ho).typeIs,fun b e=>by cases e; exact ⟨_,ho,rfl⟩,?_⟩
 refine za6 (.builtin "list.pop") (by rw [za5,hst]; rfl) ?_
 refine spliced_more ?_ hst
 refine wpAny_Constant_int (spliced_none ⟨(R1.toks tk).keeps,?_⟩)
 have hz:=X.pbz
 have hlen:=hw.length
 refine zb2 hw.uncons fun u rest ev hu hr=>?_
 have evs:vs=(u::rest).toArray:=by rw [← ev]
 subst evs
 refine yi4 (s:={ s1 with toks:=tk+1 }) ho (y:=u) (by simp) (by simp at hlen hz ⊢; lia) fun h' m' ho' hs'=>?_
 refine h g1 _ _ l1 (R1.lexOne (tk:=tk+1) hs X (c:=t.p) (mm 2 rfl) hs'.2 ⟨_,ho'⟩ (X.pbAt hs'.2 (by simp at hz; exact Nat.le_of_lt ‹_›) ⟨_,_,ho',⟨_,rfl⟩,by simpa using hr⟩)) hu
theorem Ev.lexPush (LK:LexK K mN) {x z:Str} {p p1 p2 pos pz:Pos} {a:Addr} {full place line} {y:W} {push:List W} (h1:Ev K n env ρ (.Name x p) σ (.ref a) σ) (hz1:(z,some (V.w y))∈ρ.v) (hs:SetO σ a (.lex full place line push) (.lex full place line (push++[y])) σ')
  (hsz:push.length<sizeLine) (hdz:(z==("__debug__" : Str))=false:=by kernel_rfl) (hbase:attributeBase (.Attribute (.Name x p) ("pushback" : Str) p1) ("append" : Str) env (eval (.Attribute (.Name x p) ("pushback" : Str) p1) env)=eval (.Attribute (.Name x p) ("pushback" : Str) p1) env:=by rfl)
  (hline:(p2.endLine==pos.line)=true:=by rfl) (hst:starEach [.Name z pz] env=[(false,eval (.Name z pz) env)]:=by rfl) :
  Ev K n env ρ (.Call (.Attribute (.Attribute (.Name x p) ("pushback" : Str) p1) ("append" : Str) p2) [.Name z pz] [] pos) σ (.w .none) σ':=.mk fun A E s Q g F R h=>by
 refine zc7 hs.split fun S1 S2 es1 es2=>?_
 have hm:(a,O.lex full place line push)∈σ:=by rw [es1]; simp
 refine wpAny_Call_method_late hbase (by rw [hst]; rfl) hline rfl ?_
 refine Attribute_name (h1 F R fun g1 s1 u l1 R1 r1=>?_)
 obtain rfl:=RV.refE r1
 obtain ⟨t,X⟩:=R1.lex hm
 refine obEE X.inst fun t1 t2 I=>?_
 refine zk1 LK R1 I LK.pb zH2 zp7 rfl fun tk=>?_
 (refine zb2 X.pb fun ob vs ho zq3 hw=>?_; obtain ⟨m,rfl⟩:=zq3)
 refine ⟨"list","list.append",PySem.F.plainAttrs_list,PySem.F.slot_list_append,PySem.F.type_list_append,(isL ho).typeIs,fun b e=>by cases e; exact ⟨_,ho,rfl⟩,?_⟩
 refine za6 (.builtin "list.append") (by rw [za5,hst]; rfl) ?_
 refine spliced_more ?_ hst
 refine zm3 (R1.toks tk) hz1 (fun w hw2=>spliced_none ⟨(R1.toks tk).keeps,?_⟩) hdz
 have hlen:=hw.length
 refine zs0 (s:={ s1 with toks:=tk }) ho (by simp at hlen; lia) fun h' m' ho' hs'=>?_
 refine h g1 _ _ l1 (R1.lexOne (tk:=tk) hs X (c:=t.p) (mm 2 rfl) hs'.2 ⟨_,ho'⟩ (X.pbAt hs'.2 (by simp; assumption) ⟨_,_,ho',⟨_,rfl⟩,by simpa using hw.snoc hw2⟩)) (by simp only [RV,RW])
theorem zL2 {l l':Int} {t1 t1':Tok} {f:Addr} {t2:Tok} {p:Addr}:(fun y=>if y=("lineno" : Str) then some (.int l' t1') else zb5 l t1 f t2 p y)=zb5 l' t1' f t2 p:=by
 funext y
 unfold zb5
 by_cases h:y=("lineno" : Str)
 ·rw [if_pos h,if_pos h]
 ·rw [if_neg h,if_neg h,if_neg h]
theorem zw3 {l t1 f t2 p}:PySem.Within (zb5 l t1 f t2 p) [("lineno" : Str),"instream","whitespace","pushback"]:=by
 intro y hy
 unfold zb5 at hy
 split at hy
 ·rename_i e; subst e; simp
 ·split at hy
  ·rename_i e; subst e; simp
  ·split at hy
   ·rename_i e; subst e; simp
   ·split at hy
    ·rename_i e; subst e; simp
    ·exact absurd rfl hy
theorem Ex1.lexLine (LK:LexK K mN) {x:Str} {p p1 pk pos:Pos} {k} {a:Addr} {full place} {line:Int} {push:List W} (h1:Ev K n env ρ (.Name x p) σ (.ref a) σ) (hs:SetO σ a (.lex full place line push) (.lex full place (line+1) push) σ') :
  Ex1 K n env ρ σ (.AugAssign (.Attribute (.Name x p) ("lineno" : Str) p1) .Add (.Constant (.int 1) k pk) pos) .next ρ σ':=.mk fun A E s Q g F R h=>by
 refine zc7 hs.split fun S1 S2 es1 es2=>?_
 have hm:(a,O.lex full place line push)∈σ:=by rw [es1]; simp
 refine wpAny_AugAssign_AttributeAny (h1 F R fun g1 s1 u l1 R1 r1=>?_)
 obtain rfl:=RV.refE r1
 obtain ⟨t,X⟩:=R1.lex hm
 refine obEE X.inst fun t1 t2 I=>?_
 refine zk1 LK R1 I LK.line zo1 zp8 rfl fun tk=>wpAny_Constant_int (PySem.P.iadd_int ?_)
 refine zb3 LK.cls fun nm q N bs sn sub col dd k0 k1 k2 k3 k5 hC hN=>?_
 have hC':=R1.keeps _ _ hC
 have hN':=hN.keeps R1.keeps
 have hta:=X.tags a (mm 0 rfl)
 have htC:g1.tag K.lexC=some .base:=(R1.gnd _ _ hC).1
 have haC:a≠K.lexC:=by intro e; rw [e,htC] at hta; cases hta
 refine obEA X.dd fun oa hoa hda=>?_
 have live:=X.live
 obtain ⟨hh,gg,d,tt,os⟩:=s1
 refine store_attrFk PySem.F.store_object hC' hN' LK.sa LK.line zo1 haC I (fun h' tk' I' hk hsame=>?_) zw3 (by rw [sizeLine_eq]; simp)
 rw [zL2] at I'
 have nd:=X.nd
 have hkk : ∀ b,b≠a→b≠t.d→∀ o,hh.get? b=some o→h'.get? b=some o:=fun b hb1 hb2 o ho=>hk b o hb1 (fun o₀ dx e1 e2=>by
  rw [hoa] at e1; cases e1; rw [hda] at e2; cases e2; exact hb2) ho
 have hkl : ∀ b∈[a,t.d,t.p,t.f,t.fd,t.r,t.c1,t.c2,t.pl],b≠a→b≠t.d→h'.get? b=hh.get? b:=fun b hb h1 h2=>by
  obtain ⟨o,ho⟩:=live b hb
  rw [hkk b h1 h2 o ho]; exact ho.symm
 have n2:a≠t.p:=nda nd 0 2 (by decide) rfl rfl
 have n3:a≠t.f:=nda nd 0 3 (by decide) rfl rfl
 have n4:a≠t.fd:=nda nd 0 4 (by decide) rfl rfl
 have n5:a≠t.r:=nda nd 0 5 (by decide) rfl rfl
 have n6:a≠t.c1:=nda nd 0 6 (by decide) rfl rfl
 have n7:a≠t.c2:=nda nd 0 7 (by decide) rfl rfl
 have n8:a≠t.pl:=nda nd 0 8 (by decide) rfl rfl
 have n9:t.d≠t.p:=nda nd 1 2 (by decide) rfl rfl
 have n10:t.d≠t.f:=nda nd 1 3 (by decide) rfl rfl
 have n11:t.d≠t.fd:=nda nd 1 4 (by decide) rfl rfl
 have n12:t.d≠t.r:=nda nd 1 5 (by decide) rfl rfl
 have n13:t.d≠t.c1:=nda nd 1 6 (by decide) rfl rfl
 have n14:t.d≠t.c2:=nda nd 1 7 (by decide) rfl rfl
 have n15:t.d≠t.pl:=nda nd 1 8 (by decide) rfl rfl
 refine zk0 (hsame oa hoa) fun o1 ho1 _ _ _ hd1=>?_
 have X':LexAt K g1 h' a t full place (line+1) push:={
  tags:=X.tags
  nd:=X.nd
  inst:=⟨_,t2,I'⟩
  dd:=⟨o1,ho1,hd1 _ hda⟩
  pbz:=X.pbz
  fz:=X.fz
  pb:=let ⟨ob,vs,e1,e2⟩:=X.pb; ⟨ob,vs,(hkl _ (mm 2 rfl) (Ne.symm n2) (Ne.symm n9)).trans e1,e2⟩
  fn:=let ⟨ob,e1,e2⟩:=X.fn; ⟨ob,(hkl _ (mm 3 rfl) (Ne.symm n3) (Ne.symm n10)).trans e1,e2⟩
  fdict:=Ns.eqAt X.fdict (hkl _ (mm 4 rfl) (Ne.symm n4) (Ne.symm n11))
  rd:=let ⟨ob,fd,cc,e1,e2⟩:=X.rd; ⟨ob,fd,cc,(hkl _ (mm 5 rfl) (Ne.symm n5) (Ne.symm n12)).trans e1,e2⟩
  cell1:=IsCell.eqAt X.cell1 (hkl _ (mm 6 rfl) (Ne.symm n6) (Ne.symm n13))
  cell2:=let ⟨tk,e⟩:=X.cell2; ⟨tk,IsCell.eqAt e (hkl _ (mm 7 rfl) (Ne.symm n7) (Ne.symm n14))⟩
  place:=let ⟨ob,tk,e,r⟩:=X.place; ⟨ob,tk,(hkl _ (mm 8 rfl) (Ne.symm n8) (Ne.symm n15)).trans e,r⟩ }
 refine h g1 _ _ l1 (R1.lexWrite (tk:=tk') hs X (fun b hb o ho=>?_) X'.live X') rfl
 refine hkk b (fun e=>hb (by simp [e])) (fun e=>hb (by simp [e])) o ho
end
end Mine
namespace Mine
structure RdSc (sc:Scope):Prop where
 count:sc.names.lookup ("count" : Str)=some .local
 place:sc.names.lookup ("place" : Str)=some .free
 text:sc.names.lookup ("text" : Str)=some .free
 nocell : ∀ x∈sc.names,x.2 ≠ .cell
 co:sc.isCoroutine=false
 gen:sc.isGenerator=false
 kind:sc.kind = .function
section
variable {K:Kc} {n m:Nat} {env cenv ce:Env} {ρ ρ' ρ₁ ρ₂ ρ₃ ρ₀ ρc:Lo} {σ σ' σ₀ σ₁ σ₂ σ₃:List (Addr × O)} {g g₀ g₁ g₂ g₄:Gh} {s s₀ s' s₄:Shared} {A:Around} {items:List W} {mN:Str→Option Value}
theorem ym2 {r c1 c2 pl cc:Addr} {ob:Obj} {fd:FuncData} {u u2:Value} {full:List Nat} {v:V} {E:Value→Shared→Prop} {Q:Value→Shared→Prop} (SC:RdSc (za4 K.rdSt))
  (F:Fit K (n+1) A) (R:Rep K g env ρ σ s) (ho:s.heap.get? r=some ob) (hdat:ob.data = .func fd) (RO:RdOk K fd c1 c2) (hcode:fd.code = .ref cc) (hCI:CodeIn g cc fd.qualname)
  (hc1:g.tag c1=some .tmp) (hk1:s.heap.IsCell c1 (some (.ref pl))) (hc2:g.tag c2=some .tmp) (hk2:s.heap.IsCell c2 (some u2)) (hu2:RW g (.str full) u2) (hne:c1≠c2) (hu:RW g (.int 1) u)
  (hb : ∀ cenv:Env,cenv.scope=za4 K.rdSt→Ex K n cenv ⟨[("count",some (.w (.int 1)))],[("place",.ref pl),("text",.w (.str full))]⟩ σ (zb6 K.rdSt) (.ret v) ρ' σ')
  (h : ∀ g' s' w,g.le g'→Rep K g' env ρ σ' s'→RV g' v w→Q w s'):wpAny (KM K) A (call (.ref r) [u]) Q E s:=by
 obtain ⟨hcb,vs,tq,hcd,hcq⟩:=hCI
 have hsc:=RO.scope
 refine wpAny_call (codeAny_call_def (fd:=fd) (body:=zb6 K.rdSt) (binds:=[(("count" : Str),u)]) (by have:=F.depth; show A.depth<1000; lia) ho hdat (R.G.lim.keeps R.keeps)
  ⟨cc,_,vs,tq,hcode,R.fix cc (.inl hcb),hcd,hcq⟩ RO.body (.of_eq (RO.bind u)) (by rw [hsc]; exact SC.nocell) (fun x hx=>by rw [List.mem_singleton.mp hx,hsc]; exact SC.count) (fun h₁ hns hk₁=>?_) (by rw [hsc]; exact SC.co) (by rw [hsc]; exact SC.gen) (by rw [hsc]; exact SC.kind))
 generalize hce:callEnv fd s.heap.objs.size r=ce
 have hsce:ce.scope=za4 K.rdSt:=by rw [← hce]; exact hsc
 have hloc:ce.locals=s.heap.objs.size:=by rw [← hce]; rfl
 have hcl:ce.cells=fd.closure:=by rw [← hce]; rfl
 have hko : ∀ x,ce.kindOf x=(za4 K.rdSt).names.lookup x:=fun x=>by rw [Env.kindOf,hsce]
 let fr:Addr→Bool:=fun b=>decide (b=ce.locals)
 have fresh:g.tag ce.locals=none:=by rw [hloc]; exact R.fresh
 have hfr:(g.swap s.heap fr).tag ce.locals=some .frame:=by simp [Gh.swap,fresh,fr]
 have sw:=g.swap_le s.heap fr
 have np1:(("text" : Str)==("place" : Str))=false:=by decide +kernel
 have np2:(("place" : Str)==("text" : Str))=false:=by decide +kernel
 have lk1:ce.cells.lookup ("place" : Str)=some c1:=by
  rw [hcl]
  rcases RO.clo with e | e <;> rw [e] <;> simp [List.lookup,np1,np2]
 have lk2:ce.cells.lookup ("text" : Str)=some c2:=by
  rw [hcl]
  rcases RO.clo with e | e <;> rw [e] <;> simp [List.lookup,np1,np2]
 have cellof : ∀ x c,ce.cells.lookup x=some c→(x = "place" ∧ c=c1)∨(x = "text" ∧ c=c2):=by
  intro x c hx
  have hm:=mem_of_lookup hx
  rw [hcl] at hm
  rcases RO.clo with e | e <;> rw [e] at hm <;> simp only [List.mem_cons,List.not_mem_nil,or_false,Prod.mk.injEq] at hm
  ·rcases hm with ⟨h1,h2⟩ | ⟨h1,h2⟩
   ·exact .inl ⟨h1,h2⟩
   ·exact .inr ⟨h1,h2⟩
  ·rcases hm with ⟨h1,h2⟩ | ⟨h1,h2⟩
   ·exact .inr ⟨h1,h2⟩
   ·exact .inl ⟨h1,h2⟩
 have FR:FrameAt (g.swap s.heap fr) h₁ ce ⟨[("count",some (.w (.int 1)))],[("place",.ref pl),("text",.w (.str full))]⟩:={
  kind:=by rw [hsce]; exact SC.kind
  glob:=by rw [← hce]; exact RO.glob
  bui:=by rw [← hce]; exact RO.bui
  nd:=by simp
  lt:=hfr
  inj:=fun x y c h1 h2=>by
   rcases cellof x c h1 with ⟨rfl,e1⟩ | ⟨rfl,e1⟩ <;> rcases cellof y c h2 with ⟨rfl,e2⟩ | ⟨rfl,e2⟩
   ·rfl
   ·exact absurd (e1.symm.trans e2) hne
   ·exact absurd (e2.symm.trans e1) hne
   ·rfl
  nel:=fun x c h1 e=>by
   have:g.tag c=some .tmp:=by rcases cellof x c h1 with ⟨_,rfl⟩ | ⟨_,rfl⟩ <;> assumption
   rw [e,fresh] at this; cases this
  var:=by
   refine ⟨_,by rw [hloc]; exact hns,fun x ov hx=>?_⟩
   rw [List.mem_singleton] at hx
   cases hx
   refine .inl ⟨by rw [hko]; exact SC.count,?_⟩
   show OV _ _ (List.lookup ("count" : Str) [(("count" : Str),u)])
   have:List.lookup ("count" : Str) [(("count" : Str),u)]=some u:=by simp [List.lookup]
   rw [this]
   exact RW.mono sw.leB hu
  cap:=fun x v hx=>by
   simp only [List.mem_cons,List.not_mem_nil,or_false,Prod.mk.injEq] at hx
   rcases hx with ⟨rfl,rfl⟩ | ⟨rfl,rfl⟩
   ·exact ⟨.inr (by rw [hko]; exact SC.place),c1,_,lk1,(sw.tmp c1 hc1).1,(let ⟨o,q1,q2⟩:=hk1; ⟨o,hk₁ _ _ q1,q2⟩),rfl⟩
   ·exact ⟨.inr (by rw [hko]; exact SC.text),c2,_,lk2,(sw.tmp c2 hc2).1,(let ⟨o,q1,q2⟩:=hk2; ⟨o,hk₁ _ _ q1,q2⟩),RW.mono sw.leB hu2⟩ }
 have R1:=R.swapFrame (tk:=s.toks+1) fr hk₁ (fun b hb=>by
  simp only [fr,decide_eq_true_eq] at hb
  subst hb
  rw [hloc]
  obtain ⟨o,_,_,e,_⟩:=hns; exact ⟨o,e⟩) FR
 have F1:Fit K n (A.deeper ce):=⟨by have:=F.depth; show A.depth+1+10*n≤900; lia,by have:=F.units; show A.units+3+200*n≤9000; lia,F.hand⟩
 refine hb ce hsce F1 R1 fun g2 s2 f l2 R2 r2=>?_
 obtain ⟨R3,l3,lB⟩:=R.backFrame l2 R2
 simp only [RF] at r2
 obtain ⟨w,rfl,r2⟩:=r2
 exact h _ _ _ l3 R3 (r2.mono lB)
theorem Rep.openO (R:Rep K g env ρ σ s) {a:Addr} (hn:a∉σ.map (·.1)) (f:Addr→Tag) (hf : ∀ b,g.tag b=some (.obj a)→f b = .tmp∨f b = .obj b) :
  ∃ g',g.le g'∧Rep K g' env ρ σ s∧(∀ b,g.tag b=some (.obj a)→g'.tag b=some (f b))∧(∀ b,g.tag b≠some (.obj a)→g'.tag b=g.tag b∧g'.con b=g.con b):=by
 let g':Gh:=⟨fun b=>if g.tag b=some (.obj a) then some (f b) else g.tag b,fun b=>if g.tag b=some (.obj a) then (s.heap.get? b).getD default else g.con b⟩
 have t1 : ∀ b,g.tag b=some (.obj a)→g'.tag b=some (f b)∧g'.con b=(s.heap.get? b).getD default:=fun b hb=>⟨if_pos hb,if_pos hb⟩
 have t2 : ∀ b,g.tag b≠some (.obj a)→g'.tag b=g.tag b∧g'.con b=g.con b:=fun b hb=>⟨if_neg hb,if_neg hb⟩
 have hle:g.le g':=⟨fun b hb=>by
   (have zq:=t2 b (by rw [hb]; simp); have q1:=zq.1; have q2:=zq.2)
   exact ⟨q1.trans hb,q2⟩,fun b hb=>by
   (have zq:=t2 b (by rw [hb]; simp); have q1:=zq.1; have q2:=zq.2)
   exact ⟨q1.trans hb,q2⟩⟩
 refine ⟨g',hle,⟨R.G,R.hd.mono hle.tmp,R.sh,fun b t hb=>?_,fun b hb=>?_,fun b o hb=>?_,?_,fun b o hm=>?_,R.nd⟩,fun b hb=>(t1 b hb).1,t2⟩
 ·by_cases hq:g.tag b=some (.obj a)
  ·exact R.live b _ hq
  ·rw [(t2 b hq).1] at hb; exact R.live b t hb
 ·by_cases hq:g.tag b=some (.obj a)
  ·obtain ⟨o,ho⟩:=R.live b _ hq
   rw [(t1 b hq).2,ho]; rfl
  ·rw [(t2 b hq).1] at hb; rw [(t2 b hq).2]; exact R.fix b hb
 ·(have zq:=R.gnd b o hb; have q1:=zq.1; have q2:=zq.2)
  (have zq:=hle.base b q1; have q3:=zq.1; have q4:=zq.2)
  exact ⟨q3,q4.trans q2⟩
 ·exact R.fr.move hle.leB (fun b hb=>⟨(t2 b (by rw [hb]; simp)).1.trans hb,rfl⟩) (fun b hb=>⟨(t2 b (by rw [hb]; simp)).1.trans hb,rfl⟩)
 ·have hba:b≠a:=fun e=>hn (e ▸ List.mem_map_of_mem (f:=Prod.fst) hm)
  exact (R.ob b o hm).move hle.leB fun c hc=>⟨(t2 c (by rw [hc]; intro e; cases e; exact hba rfl)).1.trans hc,rfl⟩
theorem Rep.closeO (R₀:Rep K g₀ env ρ₀ σ₀ s₀) (R:Rep K g env ρ σ s) (l:g₀.le g) {a:Addr} (D:List Addr) (hD : ∀ b∈D,g₀.tag b=some (.obj a)) (hD2 : ∀ b∈D,g.tag b=some .tmp∨g.tag b=some (.obj b)) (hc:ρ.c=ρ₀.c)
  (hn : ∀ b∈D,b∉σ.map (·.1)) : ∃ g',g₀.le g'∧g.leB g'∧Rep K g' env ρ σ s∧(∀ b∈D,g'.tag b=some (.obj a))∧(∀ b,b∉D→g'.tag b=g.tag b∧g'.con b=g.con b):=by
 classical
 let g':Gh:=⟨fun b=>if b∈D then some (.obj a) else g.tag b,g.con⟩
 have t1 : ∀ b∈D,g'.tag b=some (.obj a):=fun b hb=>if_pos hb
 have t2 : ∀ b,b∉D→g'.tag b=g.tag b∧g'.con b=g.con b:=fun b hb=>⟨if_neg hb,rfl⟩
 have nb : ∀ b t,g₀.tag b=some t→t ≠ .obj a→b∉D:=fun b t hb ht hm=>by rw [hD b hm] at hb; cases hb; exact ht rfl
 have lB:g.leB g':=fun b hb=>by
  have:b∉D:=fun hm=>by rcases hD2 b hm with q | q <;> rw [q] at hb <;> cases hb
  exact ⟨(t2 b this).1.trans hb,rfl⟩
 have l0:g₀.le g':=⟨fun b hb=>by
   (have zq:=l.base b hb; have q1:=zq.1; have q2:=zq.2)
   exact ⟨(t2 b (nb b _ hb (by simp))).1.trans q1,q2⟩,fun b hb=>by
   (have zq:=l.tmp b hb; have q1:=zq.1; have q2:=zq.2)
   exact ⟨(t2 b (nb b _ hb (by simp))).1.trans q1,q2⟩⟩
 refine ⟨g',l0,lB,⟨R.G,R₀.hd.mono l0.tmp,R.sh,fun b t hb=>?_,fun b hb=>?_,fun b o hb=>?_,?_,fun b o hm=>?_,R.nd⟩,t1,t2⟩
 ·by_cases hq:b∈D
  ·rcases hD2 b hq with q | q <;> exact R.live b _ q
  ·rw [(t2 b hq).1] at hb; exact R.live b t hb
 ·by_cases hq:b∈D
  ·rw [t1 b hq] at hb; simp at hb
  ·rw [(t2 b hq).1] at hb; exact R.fix b hb
 ·(have zq:=R.gnd b o hb; have q1:=zq.1; have q2:=zq.2)
  exact ⟨(lB b q1).1,q2⟩
 ·have Fr:=R.fr
  have hfrm : ∀ b,g.tag b=some .frame→b∉D:=fun b hb hm=>by rcases hD2 b hm with q | q <;> rw [q] at hb <;> cases hb
  exact { Fr with
   lt:=(t2 _ (hfrm _ Fr.lt)).1.trans Fr.lt
   var:=by
    refine obEA Fr.var fun m hns hv=>?_
    refine ⟨m,hns,fun y ov hy=>?_⟩
    rcases hv y ov hy with ⟨h1,h2⟩ | ⟨h1,c,u,h2,h3,h4,h5⟩
    ·exact .inl ⟨h1,h2.mono lB⟩
    ·exact .inr ⟨h1,c,u,h2,(t2 c (hfrm c h3)).1.trans h3,h4,h5.mono lB⟩
   cap:=fun y v hy=>by
    refine zc5 (Fr.cap y v hy) fun h1 c u h2 h3 h4 h5=>?_
    rw [hc] at hy
    refine zQ1 (R₀.fr.cap y v hy) fun _ c' u' k2 k3 _=>?_
    rw [h2] at k2; cases k2
    exact ⟨h1,c,u,h2,(t2 c (nb c _ k3 (by simp))).1.trans h3,h4,h5.mono lB⟩ }
 ·refine (R.ob b o hm).move lB fun c hcb=>⟨?_,rfl⟩
  have:c∉D:=fun hd=>by
   rcases hD2 c hd with q | q
   ·rw [q] at hcb; cases hcb
   ·rw [q] at hcb; cases hcb
    exact hn _ hd (List.mem_map_of_mem (f:=Prod.fst) hm)
  exact (t2 c this).1.trans hcb
end
end Mine
namespace Mine
open Builtin Builtin.ObjectAttr
theorem fn_ga:Slot "function" "__getattribute__" "object.__getattribute__" :=
 .of (owner := "object") (n := "__getattribute__") (by rw [typeLookup_type,builtinLookup_eq_fast]; kernel_rfl) (by decide +kernel) (by decide +kernel) (by decide +kernel)
  (by first | exact .inl (by decide +kernel) | exact .inr (by decide +kernel)) (by rw [isSubtype_type]; kernel_rfl)
theorem zu2:typeLookup (.type "function") "read" = pure none:=by rw [typeLookup_type,builtinLookup_eq_fast]; kernel_rfl
theorem zL6:typeLookup (.type "function") "__getattr__" = pure none:=by rw [typeLookup_type,builtinLookup_eq_fast]; kernel_rfl
theorem zz3:entryFor table "object.__getattribute__" = some Builtin.«object.__getattribute__» := entryFor_of_tree (by kernel_rfl)
theorem zE0 (a b:Value):argsOk "object.__getattribute__" ⟨[a,b],[]⟩:=by unfold argsOk; kernel_rfl
theorem zz4:(Manifest.canonical "object.__getattribute__" != "object.__getattribute__")=false:=by decide +kernel
section
variable {prog:Program} {w:World} {A:Around} {E:Value→Shared→Prop} {h:Heap} {gg:Array GenState} {d:Drawn} {t:Nat} {os:OsState} {f fdA:Addr} {o:Obj} {mF:Str→Option Value} {v:Value}
theorem yf7 {tk:Tok} {Q:Fin→Shared→Prop} (hx:h.get? f=some o) (hc:o.cls = .type "function") (hd:o.dict=some fdA) (hnc : ∀ c,o.data ≠ .cls c) (hns:h.Ns fdA mF) (hv:mF "read" = some v) (hq:Q (.done (.ret v)) ⟨h,gg,d,t,os⟩) :
  wpAny (model prog w) A (Builtin.«object.__getattribute__» ⟨[.ref f,.str "read" tk],[]⟩) Q E ⟨h,gg,d,t,os⟩:=by
 have hT:(⟨h,gg,d,t,os⟩:Shared).TypeIs (.ref f) "function" := ⟨_,hx,hc⟩
 have f1:=zu2
 unfold Builtin.«object.__getattribute__»
 repeat (first | (with_reducible refine wpAny_loadPart_at hx ?_; try rw [hc]) | (with_reducible refine wpAny_typeOf hT ?_) | wp_step)
 split
 ·rename_i c hcd
  exact absurd hcd (hnc c)
 unfold instanceDict
 repeat (first | (with_reducible refine wpAny_loadPart_at hx ?_; try rw [hc]) | wp_step)
 rw [hd]
 repeat (first | (with_reducible refine wpAny_nsGet hns ?_; rw [hv]) | wp_step)
 exact hq
theorem zS9 {pl:Sem Bool} {Q:Value × List Value→Shared→Prop} (hx:h.get? f=some o) (hc:o.cls = .type "function") (hd:o.dict=some fdA) (hnc : ∀ c,o.data ≠ .cls c) (hns:h.Ns fdA mF) (hv:mF "read" = some v) (hh:handedOut v=pure v)
  (hq : ∀ tk,Q (v,[]) ⟨h,gg,d,tk,os⟩):wpAny (model prog w) A (getMethod (.ref f) "read" pl) Q E ⟨h,gg,d,t,os⟩:=by
 have hT : ∀ tk,(⟨h,gg,d,tk,os⟩:Shared).TypeIs (.ref f) "function" := fun _=>⟨_,hx,hc⟩
 unfold getMethod
 refine wpAny_bind (wpAny_specialOf (hT _) fn_ga.lookup ?_)
 show wpAny _ _ (if (Manifest.canonical "object.__getattribute__" != "object.__getattribute__")=true then _ else _) _ _ _
 rw [if_neg (by rw [zz4]; decide)]
 refine wpAny_bind (wpAny_specialOf (hT _) zL6 ?_)
 rw [if_neg (by decide)]
 refine wpAny_bind (wpAny_specialOf (hT _) zu2 ?_)
 unfold getAttr getAttrBy
 refine wpAny_bind (wpAny_bind (wpAny_mkText (wpAny_holding (wpAny_bind (wpAny_typeOf (hT _) (wpAny_bind (wpAny_of_eq fn_ga.lookup ?_)))))))
 show wpAny _ _ (getAttrByItsOwn (.ref f) (.str "read" t) (.type "function") (.builtin "object.__getattribute__") true false) _ _ _
 unfold getAttrByItsOwn hookBefore callGetattribute boundAndCalled
 refine wpAny_bind (wpAny_of_eq (show (if onTheHeap (.type "function") then typeLookup (.type "function") "__getattr__" else pure none)=pure none from rfl) ?_)
 refine wpAny_bind (wpAny_attempt (wpAny_holding ?_))
 show wpAny _ _ (bindSpecial (.builtin "object.__getattribute__") (.ref f) >>= _) _ _ _
 refine wpAny_bind (wpAny_of_eq (fn_ga.bind _) ?_)
 refine wpAny_mono (Q:=fun v' s'=>v'=v∧s'=⟨h,gg,d,t+1,os⟩) (E:=fun _ _=>False)
  (wpAny_call_entry fn_ga (hT _) zz3 (yf7 hx hc hd hnc hns hv ⟨_,rfl,rfl,rfl⟩) (zE0 _ _)) (fun v' s' hv'=>?_) fun _ _ z=>z.elim
 (have zq0:=hv'.1; have zq1:=hv'.2; subst zq0; subst zq1)
 dsimp only
 rw [hh]
 exact wpAny_pure (wpAny_pure (hq _))
end
section
variable {K:Kc} {n m:Nat} {env cenv ce:Env} {ρ ρ' ρ₁ ρ₂ ρ₃ ρ₀ ρc:Lo} {σ σ' σ₀ σ₁ σ₂ σ₃:List (Addr × O)} {g g₀ g₁ g₂ g₄:Gh} {s s₀ s' s₄:Shared} {A:Around} {items:List W} {mN:Str→Option Value}
theorem zr6 {o:Expr} {name:Str} {apos pos:Pos} {es:List Expr} {E:Value→Shared→Prop} {Q:Value→Shared→Prop} (hbase:attributeBase o name env (eval o env)=eval o env) (hlen:es.length+0<30) (hline:(apos.endLine==pos.line)=true) (hp:(starEach es env).any (·.1)=false)
  (h:wpAny (KM K) A (eval o env) (fun ov s₁=>∀ pl,wpAny (KM K) A (getMethod ov name pl) (fun fx s₂=>wpAny (KM K) A (callWith pos fx.1 fx.2 (backTo pos (starEach es env)) []) Q E s₂) E s₁) E s) :
  wpAny (KM K) A (eval (.Call (.Attribute o name apos) es [] pos) env) Q E s:=by
 have hfew:((backTo pos (starEach es env)).all (fun x=>!x.1)&&(backToKw pos (keywordEach [] env)).all (fun x=>x.1.isSome)
   && decide (es.length+([]:List Keyword).length+(if ([]:List Keyword).isEmpty then 0 else 1)<30))=true:=by
  have e:((backTo pos (starEach es env)).all fun x=>!x.1)=true:=by
   rw [List.all_eq_not_any_not]; simp only [Bool.not_not]; rw [za5,hp]; rfl
  rw [e,Bool.true_and]
  show (true&&decide (es.length+0+0<30))=true
  simpa using hlen
 rw [arm_eval_Call,hbase]
 refine wpAny_bind (wpAny_mono h (fun ov s₁ h₁=>?_) fun _ _ e=>e)
 refine wpAny_bind (wpAny_standAt ?_)
 have hform:methodCallForm (es.length+([]:List Keyword).length) (backTo pos (starEach es env)) (backToKw pos (keywordEach [] env))=true:=hfew
 have hpos:methodCallPos true o env apos pos=pure pos:=by unfold methodCallPos; simp [hline]
 unfold methodCall
 rw [hform]
 refine wpAny_bind (wpAny_holding (wpAny_mono (h₁ _) (fun fx s₂ h₂=>?_) fun _ _ x=>x))
 exact wpAny_bind (wpAny_of_eq hpos h₂)
structure MethAt (K:Kc) (mN:Str→Option Value) (x:Str) (st:Stmt) (f:Addr) (fd:FuncData):Prop where
 nm:mN x=some (.ref f)
 fn:FnAt K f fd
 cls : ∃ o,K.s₀.heap.get? f=some o∧o.cls = .type "function"
 body:fd.body = .stmts (zb6 st)
 scope:fd.scope=za4 st
 bind : ∀ us:List Value,us.length=(zh6 st).length→bindArgs fd ⟨us,[]⟩=pure ((zh6 st).zip us)
noncomputable def MCalls (K:Kc) (mN:Str→Option Value) (n:Nat) (x:Str) (vs:List V) (σ:List (Addr × O)) (v:V) (σ':List (Addr × O)):Prop :=
 ∃ f fd,mN x=some (.ref f)∧FnAt K f fd∧(∃ o,K.s₀.heap.get? f=some o∧o.cls = .type "function")∧Fn K n (.ref f) vs σ v σ'
theorem MCalls.of {x:Str} {st:Stmt} {a:Addr} {fd:FuncData} {vs:List V} {v:V} {o:Out} (D:MethAt K mN x st a fd) (P:Pars (za4 st) (zh6 st) vs ρ)
  (hb : ∀ env:Env,env.scope=za4 st→Ex K n env ρ σ (zb6 st) o ρ' σ') (ho:o = .ret v∨(o = .next∧v = .w .none))
  (hco:(za4 st).isCoroutine=false:=by rfl) (hgen:(za4 st).isGenerator=false:=by rfl) (hk:(za4 st).kind = .function:=by rfl):MCalls K mN (n+1) x vs σ v σ' :=
 ⟨a,fd,D.nm,D.fn,D.cls,Fn.of D.fn D.body (fun us hu=>D.bind us (by rw [hu,P.len])) (D.scope ▸ P) (fun env he=>hb env (he.trans D.scope)) ho (by rw [D.scope]; exact hco) (by rw [D.scope]; exact hgen) (by rw [D.scope]; exact hk)⟩
theorem Ev.methO (LK:LexK K mN) {x name:Str} {p apos pos:Pos} {es:List Expr} {a:Addr} {full place line push} {vs:List V} {v:V} {y:Option Value} (h1:Ev K n env ρ (.Name x p) σ (.ref a) σ) (hm:(a,O.lex full place line push)∈σ)
  (hB:typeLookup (.type "object") name=pure y) (hno : ∀ l t1 f t2 p,zb5 l t1 f t2 p name=none) (h2:Evs K n env ρ es σ vs σ₁) (h3:MCalls K mN n name (.ref a::vs) σ₁ v σ₂)
  (hbase:attributeBase (.Name x p) name env (eval (.Name x p) env)=eval (.Name x p) env:=by rfl) (hlen:es.length+0<30:=by decide) (hline:(apos.endLine==pos.line)=true:=by rfl)
  (hp:(starEach es env).any (·.1)=false:=by rfl):Ev K n env ρ (.Call (.Attribute (.Name x p) name apos) es [] pos) σ v σ₂:=.mk fun A E s Q g F R h=>by
 refine zr6 hbase hlen hline hp (h1 F R fun g1 s1 u l1 R1 r1 pl=>?_)
 obtain rfl:=RV.refE r1
 obtain ⟨t,X⟩:=R1.lex hm
 refine obEE X.inst fun t1 t2 I=>?_
 (refine zh7 h3 fun f fd hf FA zq4 hcall=>?_; obtain ⟨of,hof,hfc⟩:=zq4)
 refine zb3 LK.cls fun nm q N bs sn sub col dd k0 k1 k2 k3 k5 hC hN=>?_
 have hC':=R1.keeps _ _ hC
 have hN':=hN.keeps R1.keeps
 have hof':=R1.keeps _ _ hof
 obtain ⟨hh,gg,d,tt,os⟩:=s1
 refine method_ofFk hC' hN' LK.ga LK.gh hf hof' hfc hB I (hno _ _ _ _ _) ?_
 refine za6 (.fn f fd FA) (by rw [za5]; exact hp) ?_
 exact h2 F R1 fun g2 s2 us l2 R2 r2=>⟨R2.keeps,hcall F R2 ⟨_,us,rfl,rfl,r2⟩ fun g3 s3 u l3 R3 r3=>h _ _ _ ((l1.trans l2).trans l3) R3 r3⟩
noncomputable def RdB (K:Kc) (n:Nat):Prop:=∀ (cenv:Env) (full:List Nat) (place:Nat) (pl:Addr) (σ:List (Addr × O)),cenv.scope=za4 K.rdSt→full.length≤sizeLine→(place:Int)<2 ^ 60 →
 Ex K n cenv ⟨[("count",some (.w (.int 1)))],[("place",.ref pl),("text",.w (.str full))]⟩ ((pl,.list [.int place])::σ) (zb6 K.rdSt) (.ret (.w (.str ((full.drop place).take 1)))) ⟨[("count",none)],[("place",.ref pl),("text",.w (.str full))]⟩ ((pl,.list [.int ((place+1:Nat):Int)])::σ)
theorem zL1 (SC:RdSc (za4 K.rdSt)) (B:RdB K n) {E:Value→Shared→Prop} {Q:Value→Shared→Prop} {a:Addr} {full:List Nat} {place:Nat} {line:Int} {push:List W} {t:LexTab} {u:Value}
  (F:Fit K (n+1) A) (R:Rep K g env ρ σ s) (hs:SetO σ a (.lex full place line push) (.lex full (place+1) line push) σ') (X:LexAt K g s.heap a t full place line push) (hu:RW g (.int 1) u) (hpl:(place:Int)<2 ^ 60)
  (h : ∀ g' s' w,g.le g'→Rep K g' env ρ σ' s'→RW g' (.str ((full.drop place).take 1)) w→Q w s'):wpAny (KM K) A (call (.ref t.r) [u]) Q E s:=by
 refine zc7 hs.split fun S1 S2 e1 e2=>?_
 have hta:=X.tags a (by simp)
 have nd:=X.nd
 have hnd:=R.nd
 rw [e1,List.map_append,List.map_cons] at hnd
 have hnd':=List.nodup_append.mp hnd
 have R1:Rep K g env ρ (S1++S2) s:=R.less (Less.refl ρ) (by rw [e1]; exact List.Sublist.append_left (List.sublist_cons_self _ _) _)
 have hn1:a∉(S1++S2).map (·.1):=by
  rw [List.map_append]
  intro hm'
  rcases List.mem_append.mp hm' with q | q
  ·exact hnd'.2.2 _ q _ List.mem_cons_self rfl
  ·exact (List.nodup_cons.mp hnd'.2.1).1 q
 obtain ⟨g1,l1,R2,k1,k2⟩:=R1.openO hn1 (fun b=>if b=t.pl then .obj t.pl else .tmp) (fun b _=>by
  by_cases e:b=t.pl
  ·subst e; exact .inr (if_pos rfl)
  ·exact .inl (if_neg e))
 have tg : ∀ b∈[a,t.d,t.p,t.f,t.fd,t.r,t.c1,t.c2,t.pl],b≠t.pl→g1.tag b=some .tmp:=fun b hb hne=>by rw [k1 b (X.tags b hb),if_neg hne]
 have tgp:g1.tag t.pl=some (.obj t.pl):=by rw [k1 t.pl (X.tags _ (by simp)),if_pos rfl]
 have n8:a≠t.pl:=nda nd 0 8 (by decide) rfl rfl
 have n15:t.d≠t.pl:=nda nd 1 8 (by decide) rfl rfl
 have n21:t.p≠t.pl:=nda nd 2 8 (by decide) rfl rfl
 have n26:t.f≠t.pl:=nda nd 3 8 (by decide) rfl rfl
 have n30:t.fd≠t.pl:=nda nd 4 8 (by decide) rfl rfl
 have n33:t.r≠t.pl:=nda nd 5 8 (by decide) rfl rfl
 have n34:t.c1≠t.c2:=nda nd 6 7 (by decide) rfl rfl
 have n35:t.c1≠t.pl:=nda nd 6 8 (by decide) rfl rfl
 have n36:t.c2≠t.pl:=nda nd 7 8 (by decide) rfl rfl
 refine zc7 X.place fun obp tkp hop hsp=>?_
 have hplS:t.pl∉(S1++S2).map (·.1):=R1.notIn (by rw [X.tags _ (by simp)]; intro e; cases e; exact n8 rfl)
 have R3:Rep K g1 env ρ ((t.pl,.list [.int place])::(S1++S2)) s:=R2.addO ⟨tgp,by rw [sizeLine_eq]; simp,obp,_,hop,hsp,RWs.cons (by simp only [RW]; exact ⟨tkp,rfl⟩) RWs.nil⟩ hplS
 refine zt4 X.rd fun obr fdr cc hor hocr hodr RO hcode hCI=>?_
 obtain ⟨tkc,hc2⟩:=X.cell2
 refine ym2 SC F R3 hor hodr RO hcode (hCI.mono l1.leB) (tg _ (by simp) n35) X.cell1 (tg _ (by simp) n36) hc2 (by simp only [RW]; exact ⟨X.fz,_,rfl⟩) n34 (RW.mono l1.leB hu)
  (fun cenv hce=>B cenv full place t.pl (S1++S2) hce X.fz hpl) fun g2 s2 w l2 R4 r4=>?_
 refine zf2 (R4.ob t.pl _ List.mem_cons_self) fun q1 qz obp2 vs2 hop2 hsp2 hw2=>?_
 refine zb2 hw2.uncons fun v1 r1 evs hv1 hr1=>?_
 simp only [RWs] at hr1; subst hr1
 simp only [RW] at hv1; obtain ⟨tk2,rfl⟩:=hv1
 have evs':vs2 = #[.int ((place+1:Nat):Int) tk2]:=by
  have:=congrArg List.toArray evs
  simpa using this
 subst evs'
 have R5:Rep K g2 env ρ (S1++S2) s2:=R4.less (Less.refl ρ) (List.sublist_cons_self _ _)
 obtain ⟨g3,l3,lB3,R6,t3,t4⟩:=R.closeO R5 (l1.trans l2) [a,t.d,t.p,t.f,t.fd,t.r,t.c1,t.c2,t.pl] (fun b hb=>X.tags b hb) (fun b hb=>by
  by_cases e:b=t.pl
  ·subst e; exact .inr q1
  ·exact .inl (l2.tmp b (tg b hb e)).1) rfl (fun b hb=>by
  intro hm
  (refine obEA (List.mem_map.mp hm) fun zq0 hcm zq2=>?_; obtain ⟨c,oc⟩:=zq0; subst zq2)
  have h1:=R1.obTag hcm
  rw [X.tags c hb] at h1; cases h1
  exact hn1 (List.mem_map_of_mem (f:=Prod.fst) hcm))
 have same : ∀ b∈[a,t.d,t.p,t.f,t.fd,t.r,t.c1,t.c2,t.pl],b≠t.pl→s2.heap.get? b=s.heap.get? b:=fun b hb hne=>by
  have h1:=tg b hb hne
  have h2:=l2.tmp b h1
  rw [R5.fix b (.inr h2.1),h2.2,R2.fix b (.inr h1)]
 have lB:g.leB g3:=l3.leB
 have X':LexAt K g3 s2.heap a t full (place+1) line push:={
  tags:=t3
  nd:=X.nd
  inst:=by
   refine obEE X.inst fun t1 t2 e=>?_
   refine obEA X.dd fun o ho hd=>?_
   refine ⟨t1,t2,InstFk.eqAt e (same a (by simp) n8) fun o' d h1 h2=>?_⟩
   rw [ho] at h1; cases h1
   rw [hd] at h2; cases h2
   exact same _ (by simp) n15
  dd:=let ⟨o,ho,hd⟩:=X.dd; ⟨o,(same a (by simp) n8).trans ho,hd⟩
  pbz:=X.pbz
  fz:=X.fz
  pb:=let ⟨ob,vs,e1,e2,e3⟩:=X.pb; ⟨ob,vs,(same _ (by simp) n21).trans e1,e2,RWs.mono lB e3⟩
  fn:=let ⟨ob,e1,e2⟩:=X.fn; ⟨ob,(same _ (by simp) n26).trans e1,e2⟩
  fdict:=Ns.eqAt X.fdict (same _ (by simp) n30)
  rd:=⟨obr,fdr,cc,(same _ (by simp) n33).trans hor,hocr,hodr,RO,hcode,hCI.mono lB⟩
  cell1:=IsCell.eqAt X.cell1 (same _ (by simp) n35)
  cell2:=⟨tkc,IsCell.eqAt hc2 (same _ (by simp) n36)⟩
  place:=⟨obp2,tk2,hop2,hsp2⟩ }
 refine h g3 s2 w l3 ?_ (RW.mono lB3 r4)
 subst e2
 refine { R6 with ob:=fun b o hm=>?_,nd:=?_ }
 ·rcases List.mem_append.mp hm with m | m
  ·exact R6.ob b o (List.mem_append_left _ m)
  ·rcases List.mem_cons.mp m with m | m
   ·cases m; exact ⟨t,X'⟩
   ·exact R6.ob b o (List.mem_append_right _ m)
 ·rw [List.map_append,List.map_cons]; exact hnd
end
end Mine
namespace Mine
open Builtin Builtin.ObjectAttr
theorem zF5:typeLookup (.type "function") "__get__" = pure (some (.builtin "function.__get__")):=KF.slot_fn.lookup
theorem zS7:typeLookup (.type "function") "__set__" = pure none:=by rw [typeLookup_type,builtinLookup_eq_fast]; kernel_rfl
theorem zS8:typeLookup (.type "function") "__delete__" = pure none:=by rw [typeLookup_type,builtinLookup_eq_fast]; kernel_rfl
section
variable {prog:Program} {w:World} {A:Around} {E:Value→Shared→Prop} {h:Heap} {g:Array GenState} {d:Drawn} {t:Nat} {os:OsState}
variable {nm q:Str} {C N x:Addr} {bs:List Value} {sn:List Str} {sub:List Value} {ab:Bool} {col:Option Bool} {dd:Option Addr} {k0 k1 k2 k3 k5:Option Value} {newId:String}
 {mN mA:Str→Option Value} {v:Value}
theorem zF8 {tk:Tok} {Q:Fin→Shared→Prop} {f:Addr} {of:Obj}
  (hC:h.get? C=some (excClassObj nm q C N bs [.type "object"] true sn sub ab col dd k0 k1 k2 k3 k5 newId)) (hn:h.Ns N mN) (hna:mN "_read_char" = some (.ref f)) (hgh:mN "__getattr__" = none)
  (hf:h.get? f=some of) (hfc:of.cls = .type "function") (I:h.InstFk x C mA) (hv:mA "_read_char" = none)
  (hq:Q (.done (.ret (.ref h.objs.size))) ⟨h.push (methodObj (.ref f) (.ref x)),g,d,t,os⟩) :
  wpAny (model prog w) A (Builtin.«proto.getattr_hooked» ⟨[.ref x,.str "_read_char" tk],[]⟩) Q E ⟨h,g,d,t,os⟩:=by
 refine zf9 I fun o hx hc hnc hd=>?_
 have hTf:(⟨h,g,d,t,os⟩:Shared).TypeIs (.ref f) "function" := ⟨_,hf,hfc⟩
 have f1:=zF5
 have f2:=zS7
 have f3:=zS8
 unfold Builtin.«proto.getattr_hooked»
 repeat (first | (with_reducible refine wpAny_loadPart_at hx ?_; rw [hc]) | (with_reducible refine wpAny_typeLookup_exc hC hn F.mro_object zH0 ?_; rw [hna]) | (with_reducible refine wpAny_typeOf hTf ?_) | wp_step)
 split
 ·rename_i c hcd
  exact absurd hcd (hnc c)
 unfold instanceDict
 repeat (first | (with_reducible refine wpAny_loadPart_at hx ?_; rw [hc]) | with_reducible refine wpAny_loadPart_at hC ?_ | wp_step)
 have fin:wpAny (model prog w) A (do copiedAttributeGuard (Str.ofString "_read_char") (Value.ref x); byTheClass (some (Value.ref f)) (some (Value.builtin "function.__get__")))
   (fun r s'=>r = .bind (Value.builtin "function.__get__") (Value.ref f)∧s'=⟨h,g,d,t,os⟩) (fun _ _=>False) ⟨h,g,d,t,os⟩:=by
  have e:copiedAttributeGuard (Str.ofString "_read_char") (Value.ref x)=pure ():=by
   unfold copiedAttributeGuard
   dsimp only
   rw [if_neg (by decide +kernel)]
  rw [e]
  refine wpAny_bind (wpAny_pure ?_)
  exact wpAny_bind (wpAny_rule (wpAny_pure ⟨rfl,rfl⟩))
 have after : ∀ r s',(r=Found.bind (Value.builtin "function.__get__") (Value.ref f)∧s'=(⟨h,g,d,t,os⟩:Shared))→wpAny (model prog w) A (match r with
   | Found.value v=>ret v
   | Found.missing=>do
    let __do_lift ← typeLookup (Value.ref C) (Str.ofString "__getattr__")
    missingOrHook (Value.ref x) (Value.str (Str.ofString "_read_char") tk) (Str.ofString "_read_char") __do_lift
   | Found.bind g a=>do
    let __do_lift ← typeLookup (Value.ref C) (Str.ofString "__getattr__")
    bindWithHook g a (Value.ref x) (Value.ref C) (Value.str (Str.ofString "_read_char") tk) __do_lift) Q E s':=by
  rintro r s' ⟨rfl,rfl⟩
  dsimp only
  refine wpAny_bind (wpAny_typeLookup_exc hC hn F.mro_object F.lk_object_getattr ?_)
  rw [hgh]
  show wpAny _ _ (holding [Value.ref f] (call (.builtin "function.__get__") [Value.ref f,Value.ref x,Value.ref C]) >>= ret) _ _ _
  refine wpAny_bind (wpAny_holding (wpAny_call (fn_get (K:=[(f,of)]) (fun a o e=>?_) ?_ ?_)))
  ·simp only [List.lookup] at e
   split at e
   ·rename_i hb
    cases e
    rw [beq_iff_eq.mp hb]; exact hf
   ·cases e
  ·show (List.lookup f [(f,of)]).map (·.cls)=_
   simp [List.lookup,hfc]
  ·exact wpAny_pure hq
 rcases hd with ⟨hdn,_⟩ | ⟨dx,hdx,_,hns,_⟩
 ·rw [hdn]
  refine wpAny_pure (a:=none) ?_
  refine wpAny_pure (a:=none) ?_
  exact wpAny_mono fin after fun _ _ z=>z.elim
 ·rw [hdx]
  refine wpAny_pure (a:=some dx) ?_
  refine wpAny_nsGet hns.ns ?_
  rw [hv]
  exact wpAny_mono fin after fun _ _ z=>z.elim
theorem zU7 {expr:Bool} {Q:Value→Shared→Prop} {f:Addr} {of:Obj}
  (hC:h.get? C=some (excClassObj nm q C N bs [.type "object"] true sn sub ab col dd k0 k1 k2 k3 k5 newId)) (hn:h.Ns N mN) (hng:mN "__getattribute__" = none) (hna:mN "_read_char" = some (.ref f)) (hgh:mN "__getattr__" = none)
  (hf:h.get? f=some of) (hfc:of.cls = .type "function") (I:h.InstFk x C mA) (hv:mA "_read_char" = none)
  (hq:Q (.ref h.objs.size) ⟨h.push (methodObj (.ref f) (.ref x)),g,d,t+1,os⟩) :
  wpAny (model prog w) A (getAttr (.ref x) "_read_char" expr) Q E ⟨h,g,d,t,os⟩:=by
 refine zd4 (id I) fun o hx hc _=>?_
 unfold getAttr getAttrBy
 repeat (first | (with_reducible refine wpAny_loadPart_at hx ?_; rw [hc]) | (with_reducible refine wpAny_typeLookup_exc hC hn F.mro_object F.lk_object_ga ?_; rw [hng]) | wp_step)
 show wpAny _ _ ((runValue (.builtin "proto.getattr_hooked" ⟨[.ref x,.str "_read_char" t],[]⟩)).onRaise (noteIf true (.ref x) (.str "_read_char" t))) _ _ _
 refine wpAny_onRaise (wpAny_runValue (codeAny_builtin F.plainObj_entry_getattr_hooked (zF8 hC hn hna hgh hf hfc I hv ?_)))
 show wpAny _ _ (handedOut (.ref h.objs.size)) _ _ _
 exact wpAny_pure hq
end
theorem zk5 {M:Model} {A:Around} {E:Value→Shared→Prop} {s:Shared} {f:Value} {pos:List Value} {Q:Value→Shared→Prop}
  (hc:codeAny M A (.call f ⟨pos,[]⟩) (fun r s'=>match r with | .ok (.ret v)=>Q v s' | .ok _=>False | .error e=>E e s') s):wpAny M A (callBorrowed f pos) Q E s:=fun Γ p hΓ=>by
 have:=hc _ p rfl (hΓ.enter (.call f ⟨pos,[]⟩) none p (by intro x; cases x))
 unfold callBorrowed
 rw [Sem.wp_call]
 have e:(fun (r:Result) (s':Shared)=>match r with | .ok (.ret v)=>Q v s' | .ok _=>False | .error e=>E e s')=fun r s'=>Sem.wp M Γ ((fun
   | .ok (.ret v)=>Sem.pure v
   | .ok _=>Sem.unsupported "internal:call-without-return-value"
   | .error e=>Sem.raise e:Result→Sem Value) r) (fun a _ s'=>Q a s') (fun e _ s'=>E e s') p s':=by
  funext r s'
  cases r with
  | error e=>rfl
  | ok f=>cases f <;> rfl
 rw [e] at this
 exact this
theorem zM3 {prog:Program} {w:World} {A:Around} {s:Shared} {b f:Addr} {x:Value} {a:Args} {S:Result→Shared→Prop} (hb:s.heap.get? b=some { cls:=.type "method",dict:=none,data:=.fields #[.ref f,x],slots := #[] })
  (hq:codeAny (model prog w) A (.call (.ref f) { a with pos:=x::a.pos }) S s):codeAny (model prog w) A (.call (.ref b) a) S s:=by
 refine codeAny_of_tree ?_
 show wpAny _ A.in1 (callAny (.ref b) a) _ _ _
 unfold callAny
 refine wpAny_bind (wpAny_load hb ?_)
 exact wpAny_pure ⟨rfl,hq⟩
theorem zj6 {M:Model} {A:Around} {E:Value→Shared→Prop} {s:Shared} {b f:Addr} {x:Value} {of:Obj} {fd:FuncData} {Q:Bool→Shared→Prop} (hb:s.heap.get? b=some { cls:=.type "method",data:=.fields #[.ref f,x] })
  (hf:s.heap.get? f=some of) (hd:of.data = .func fd) (h:Q true s):wpAny M A (borrowsExactly (.ref b)) Q E s:=by
 unfold borrowsExactly
 refine wpAny_bind (wpAny_load hb ?_)
 dsimp only
 rw [if_pos (by decide +kernel)]
 show wpAny M A (load f >>= _) Q E s
 refine wpAny_bind (wpAny_load hf ?_)
 rw [hd]
 exact wpAny_pure h
end Mine
namespace Mine
open Builtin Builtin.ObjectAttr
theorem slot_citer_next:Slot "callable_iterator" "__next__" "callable_iterator.__next__" :=
 .of (owner := "callable_iterator") (n := "__next__") (by rw [typeLookup_type,builtinLookup_eq_fast]; kernel_rfl) (by decide +kernel) (by decide +kernel) (by decide +kernel)
  (by first | exact .inl (by decide +kernel) | exact .inr (by decide +kernel)) (by rw [isSubtype_type]; kernel_rfl)
theorem ze3:entryFor table "callable_iterator.__next__" = some Builtin.«callable_iterator.__next__» := entryFor_of_tree (by kernel_rfl)
theorem ze9 (a:Value):argsOk "callable_iterator.__next__" ⟨[a],[]⟩:=by unfold argsOk; kernel_rfl
theorem zh4:Slot "callable_iterator" "__iter__" "callable_iterator.__iter__" :=
 .of (owner := "callable_iterator") (n := "__iter__") (by rw [typeLookup_type,builtinLookup_eq_fast]; kernel_rfl) (by decide +kernel) (by decide +kernel) (by decide +kernel)
  (by first | exact .inl (by decide +kernel) | exact .inr (by decide +kernel)) (by rw [isSubtype_type]; kernel_rfl)
theorem zn6:entryFor table "callable_iterator.__iter__" = some Builtin.«dict_keyiterator.__iter__» := entryFor_alias (id' := "dict_keyiterator.__iter__") (by kernel_rfl) (by decide +kernel) (by decide +kernel) (by kernel_rfl)
theorem zr9 (a:Value):argsOk "callable_iterator.__iter__" ⟨[a],[]⟩:=by unfold argsOk; kernel_rfl
theorem zM8 (a b:Value):argsOk "iter" ⟨[a,b],[]⟩:=by unfold argsOk; kernel_rfl
theorem zn5 : ∃ id,typeLookup (.type "method") "__call__" = pure (some (.builtin id)):=⟨"method.__call__",by rw [typeLookup_type,builtinLookup_eq_fast]; kernel_rfl⟩
section
variable {K:Kc} {n m:Nat} {env cenv ce:Env} {ρ ρ' ρ₁ ρ₂ ρ₃ ρ₀ ρc:Lo} {σ σ' σ₀ σ₁ σ₂ σ₃:List (Addr × O)} {g g₀ g₁ g₂ g₄:Gh} {s s₀ s' s₄:Shared} {A:Around} {items:List W} {mN:Str→Option Value}
theorem Ev.readStream (LK:LexK K mN) (SC:RdSc (za4 K.rdSt)) (B:RdB K n) {x:Str} {p p1 p2 pk pos:Pos} {k} {a:Addr} {full:List Nat} {place:Nat} {line:Int} {push:List W} (h1:Ev K (n+1) env ρ (.Name x p) σ (.ref a) σ)
  (hs:SetO σ a (.lex full place line push) (.lex full (place+1) line push) σ') (hpl:(place:Int)<2 ^ 60)
  (hbase:attributeBase (.Attribute (.Name x p) ("instream" : Str) p1) ("read" : Str) env (eval (.Attribute (.Name x p) ("instream" : Str) p1) env)=eval (.Attribute (.Name x p) ("instream" : Str) p1) env:=by rfl)
  (hline:(p2.endLine==pos.line)=true:=by rfl) (hst:starEach [.Constant (.int 1) k pk] env=[(false,eval (.Constant (.int 1) k pk) env)]:=by rfl) :
  Ev K (n+1) env ρ (.Call (.Attribute (.Attribute (.Name x p) ("instream" : Str) p1) ("read" : Str) p2) [.Constant (.int 1) k pk] [] pos) σ (.w (.str ((full.drop place).take 1))) σ':=.mk fun A E s Q g F R h=>by
 refine zc7 hs.split fun S1 S2 es1 es2=>?_
 have hm:(a,O.lex full place line push)∈σ:=by rw [es1]; simp
 refine zr6 hbase (by simp) hline (by rw [hst]; rfl) (Attribute_name (h1 F R fun g1 s1 u l1 R1 r1=>?_))
 obtain rfl:=RV.refE r1
 obtain ⟨t,X⟩:=R1.lex hm
 refine obEE X.inst fun t1 t2 I=>?_
 refine zk1 LK R1 I LK.ins zP7 zL3 rfl fun tk pl=>?_
 refine zf9 X.fn fun of hof hfc hfd hnc=>?_
 have hfdict:=X.fdict
 refine zt4 X.rd fun obr fdr cc hor hocr hodr RO hcode hCI=>?_
 have R1k:=R1.toks
 obtain ⟨hh,gg,d,tt,os⟩:=s1
 refine zS9 hof hfc hfd hnc hfdict (by rw [if_pos rfl]) rfl fun tk2=>?_
 refine callWith_function_kw (o:=obr) (fd:=fdr) (zg7 (by rw [za5,hst]; rfl) (spliced_more (wpAny_Constant_int (spliced_none ⟨⟨hor,hodr⟩,?_⟩)) hst))
 exact zL1 SC B F (R1k (tk2+1)) hs X (by first | exact RW.intK | exact RV.intK) hpl fun g2 s2 w l2 R2 r2=>h _ _ _ (l1.trans l2) R2 r2
noncomputable def zs1 (K:Kc) (n:Nat):Prop:=∀ (σ σ':List (Addr × O)) (l:Addr) (full:List Nat) (place:Nat) (line:Int) (push:List W),(place:Int)<2 ^ 59 →
 SetO σ l (.lex full place line push) (.lex full (place+1) (if full[place]? = some 10 then line+1 else line) push) σ'→FnC K n (.ref K.lexR) [.ref l] σ (.w (.str ((full.drop place).take 1))) σ'
theorem EvN.citer (LK:LexK K mN) (hR : ∃ o,K.s₀.heap.get? K.lexR=some o∧o.cls = .type "function") {q x:Str} {p p1 pk pi pos:Pos} {k} {a:Addr} {full:List Nat} {place:Nat} {line:Int} {push:List W}
  (hk:env.kindOf ("iter" : Str)=some .globalImplicit) (hx:K.mg ("iter" : Str)=none) (hb:K.mb ("iter" : Str)=some (.builtin "iter")) (h1:Ev K n env ρ (.Name x p) σ (.ref a) σ) (hm:(a,O.lex full place line push)∈σ)
  (hs1:starEach [.Attribute (.Name x p) ("_read_char" : Str) p1,.Constant (.str "") k pk] env=(false,eval (.Attribute (.Name x p) ("_read_char" : Str) p1) env)::starEach [.Constant (.str "") k pk] env:=by rfl)
  (hs2:starEach [.Constant (.str "") k pk] env=[(false,eval (.Constant (.str "") k pk) env)]:=by rfl) :
  EvN K n env ρ (.Call (.Name ("iter" : Str) pi) [.Attribute (.Name x p) ("_read_char" : Str) p1,.Constant (.str "") k pk] [] pos) σ (.citer a false) σ:=.mk fun A E s Q g F R h=>by
 refine wpAny_Call_ofName (Ev.bui hk hx hb (by decide +kernel) F R fun g0 s0 u0 l0 R0 r0=>?_)
 simp only [RV,RW] at r0; subst r0
 refine za6 (.builtin "iter") (by rw [za5,hs1,hs2]; rfl) ?_
 refine spliced_more ?_ hs1
 refine Attribute_name (h1 F R0 fun g1 s1 u l1 R1 r1=>?_)
 obtain rfl:=RV.refE r1
 obtain ⟨t,X⟩:=R1.lex hm
 refine obEE X.inst fun t1 t2 I=>?_
 refine zb3 LK.cls fun nm q N bs sn sub col dd k0 k1 k2 k3 k5 hC hN=>?_
 have hC':=R1.keeps _ _ hC
 have hN':=hN.keeps R1.keeps
 refine obEA hR fun of hof hfc=>?_
 have hof':=R1.keeps _ _ hof
 have hta:=X.tags a (by simp)
 obtain ⟨hh,gg,d,tt,os⟩:=s1
 refine zU7 hC' hN' LK.ga LK.rd LK.gh hof' hfc I (by unfold zb5; rw [if_neg (by decide +kernel),if_neg (by decide +kernel),if_neg (by decide +kernel),if_neg (by decide +kernel)]) ?_
 refine spliced_more ?_ hs2
 refine wpAny_Constant_str (spliced_none ?_)
 have hbm:=Heap.get?_push_size hh (o:=methodObj (.ref K.lexR) (.ref a)) rfl
 have R2:=(R1.push (methodObj (.ref K.lexR) (.ref a))).toks (tt+1+1)
 refine ⟨R2.keeps,?_⟩
 refine Calls.call_function_entry (by decide +kernel) (by decide +kernel) kdk_entry_iter (zM8 _ _) ?_
 unfold Builtin.«iter»
 refine wpAny_bind (m:=someArgs "iter" 1 2 _) (wpAny_of_eq (a:=[Value.ref hh.objs.size,.str "" (tt+1)]) (by first | rfl | kernel_rfl!) ?_)
 dsimp only
 obtain ⟨idc,hidc⟩:=zn5
 refine wpAny_bind (wpAny_specialOf (T := "method") ⟨_,hbm,rfl⟩ hidc ?_)
 rw [if_neg (by simp)]
 refine wpAny_bind (wpAny_rule ?_)
 refine wpAny_bind (wpAny_newObj_type ?_ (by size_fits))
 refine wpAny_pure ⟨_,rfl,?_⟩
 have hz:(hh.push (methodObj (.ref K.lexR) (.ref a))).objs.size=hh.objs.size+1:=Heap.size_push ..
 have hci:=Heap.get?_push_size (hh.push (methodObj (.ref K.lexR) (.ref a))) (o:={ cls:=.type "callable_iterator",data:=.fields #[.ref hh.objs.size,.str ("" : Str) (tt+1),.bool false] }) rfl
 have R3:=R2.push { cls:=.type "callable_iterator",data:=.fields #[.ref hh.objs.size,.str ("" : Str) (tt+1),.bool false] }
 have n1:g1.tag hh.objs.size=none:=R1.fresh
 have n2:g1.tag (hh.push (methodObj (.ref K.lexR) (.ref a))).objs.size=none:=R2.fresh
 have hne:hh.objs.size≠(hh.push (methodObj (.ref K.lexR) (.ref a))).objs.size:=by rw [hz]; exact Nat.ne_of_lt (Nat.lt_succ_self _)
 have R4:=R3.tagAs (t:=.obj (hh.push (methodObj (.ref K.lexR) (.ref a))).objs.size) hci n2
 have n3:(g1.set (hh.push (methodObj (.ref K.lexR) (.ref a))).objs.size (some (.obj (hh.push (methodObj (.ref K.lexR) (.ref a))).objs.size)) { cls:=.type "callable_iterator",data:=.fields #[.ref hh.objs.size,.str ("" : Str) (tt+1),.bool false] }).tag hh.objs.size=none:=by
  rw [(g1.set_ne _ _ hne).1]; exact n1
 have hbm3:=Heap.get?_push_of_some { cls:=.type "callable_iterator",data:=.fields #[.ref hh.objs.size,.str ("" : Str) (tt+1),.bool false] } hbm
 have R5:=R4.tagAs (t:=.obj (hh.push (methodObj (.ref K.lexR) (.ref a))).objs.size) hbm3 n3
 refine h _ _ _ (((l0.trans l1).trans (Gh.le_set n2)).trans (Gh.le_set n3)) (R5.addO (o:=.citer a false) ⟨?_,?_⟩ (R1.notIn (by rw [n2]; simp)))
 ·rw [(Gh.set_ne _ _ _ (Ne.symm hne)).1]; exact (Gh.set_self _ _ _ _).1
 ·rw [if_neg (by decide)]
  exact ⟨hh.objs.size,_,(Gh.set_self _ _ _ _).1,hne,hci,hbm3⟩
end
end Mine
namespace Mine
open Builtin Builtin.ObjectAttr
section
variable {K:Kc} {n m:Nat} {env cenv ce:Env} {ρ ρ' ρ₁ ρ₂ ρ₃ ρ₀ ρc:Lo} {σ σ' σ₀ σ₁ σ₂ σ₃:List (Addr × O)} {g g₀ g₁ g₂ g₄:Gh} {s s₀ s' s₄:Shared} {A:Around} {items:List W} {mN:Str→Option Value}
theorem Fit.in1 (F:Fit K (n+1) A):Fit K n A.in1:=⟨by have:=F.depth; show A.depth+10*n≤900; lia,by have:=F.units; show A.units+1+200*n≤9000; lia,F.hand⟩
theorem zu5 (RC:zs1 K n) {bm l:Addr} {full:List Nat} {place:Nat} {line:Int} {push:List W} {E:Value→Shared→Prop} {Q:Value→Shared→Prop} (hF : ∃ o fd,K.s₀.heap.get? K.lexR=some o∧o.data = .func fd)
  (F:Fit K n A) (R:Rep K g env ρ σ s) (hbm:s.heap.get? bm=some { cls:=.type "method",data:=.fields #[.ref K.lexR,.ref l] }) (hpl:(place:Int)<2 ^ 59)
  (hs:SetO σ l (.lex full place line push) (.lex full (place+1) (if full[place]? = some 10 then line+1 else line) push) σ')
  (h : ∀ g' s' u,g.le g'→Rep K g' env ρ σ' s'→RW g' (.str ((full.drop place).take 1)) u→Q u s'):wpAny (KM K) A (callOutOfASlot (.ref bm)) Q E s:=by
 refine zc7 hF fun o fd ho hd=>?_
 unfold callOutOfASlot
 refine wpAny_bind (zj6 hbm (R.keeps _ _ ho) hd ?_)
 rw [if_pos rfl]
 refine zk5 (zM3 hbm ?_)
 exact (RC σ σ' l full place line push hpl hs).go F R ⟨_,_,rfl,rfl,rfl⟩ fun g' s' u l1 R1 r1=>h g' s' u l1 R1 r1
theorem Rep.citer (R:Rep K g env ρ σ s) {c l:Addr} (hm:(c,O.citer l false)∈σ):g.tag c=some (.obj c)∧∃ bm tk,g.tag bm=some (.obj c)∧bm≠c ∧
   s.heap.get? c=some { cls:=.type "callable_iterator",data:=.fields #[.ref bm,.str ⟨#[]⟩ tk,.bool false] }∧s.heap.get? bm=some { cls:=.type "method",data:=.fields #[.ref K.lexR,.ref l] }:=by
 have:=R.ob c _ hm
 exact ⟨this.1,this.2⟩
theorem zL9 (RC:zs1 K n) {c l:Addr} {full:List Nat} {place:Nat} {line:Int} {push:List W} {ch:Nat} {E:Value→Shared→Prop} {Q:Option Value→Shared→Prop} (hF : ∃ o fd,K.s₀.heap.get? K.lexR=some o∧o.data = .func fd)
  (F:Fit K (n+1) A) (R:Rep K g env ρ σ s) (hm:(c,O.citer l false)∈σ) (hm':(c,O.citer l false)∈σ') (hpl:(place:Int)<2 ^ 59) (hch:full[place]? = some ch)
  (hs:SetO σ l (.lex full place line push) (.lex full (place+1) (if full[place]? = some 10 then line+1 else line) push) σ')
  (h : ∀ g' s' u,g.le g'→Rep K g' env ρ σ' s'→RW g' (.str [ch]) u→Q (some u) s'):wpAny (KM K) A (pyNext (.ref c)) Q E s:=by
 refine zc5 (R.citer hm) fun _ bm tk t1 t2 hc hbm=>?_
 have htk:(full.drop place).take 1=[ch]:=by
  obtain ⟨hlt,he⟩:=List.getElem?_eq_some_iff.mp hch
  rw [List.drop_eq_getElem_cons hlt,he]; rfl
 unfold pyNext
 refine wpAny_bind (wpAny_attempt (wpAny_callSpecial?_slot (name:=Str.ofString "__next__") (T := "callable_iterator") ⟨_,hc,rfl⟩ slot_citer_next
  (wpAny_call_entry slot_citer_next ⟨_,hc,rfl⟩ ze3 ?_ (ze9 _))))
 unfold Builtin.«callable_iterator.__next__»
 refine wpAny_bind (m:=slotArgs "__next__" 0 _) (wpAny_of_eq (a:=(Value.ref c,[])) rfl ?_)
 dsimp only
 refine wpAny_bind (wpAny_field hc rfl (x:=.bool false) rfl ?_)
 rw [if_neg (by decide)]
 refine wpAny_bind (wpAny_field hc rfl (x:=.ref bm) rfl ?_)
 refine wpAny_bind (wpAny_attempt (zu5 RC hF F.in1 R hbm hpl hs fun g1 s1 u l1 R1 r1=>?_))
 dsimp only
 refine zc5 (R1.citer hm') fun _ bm1 tk1 q1 q2 hc1 hbm1=>?_
 refine wpAny_bind (wpAny_field hc1 rfl (x:=.bool false) rfl ?_)
 rw [if_neg (by decide)]
 refine wpAny_bind (wpAny_field hc1 rfl (x:=.str ⟨#[]⟩ tk1) rfl ?_)
 rw [htk] at r1
 have r1':=r1
 simp only [RW] at r1'
 (refine obAE r1' fun _ tu zq2=>?_; subst zq2)
 refine wpAny_bind (wpAny_holding (wpAny_eqBool_str ?_))
 have hne:decide ((⟨#[]⟩:Str)=⟨[ch].toArray⟩)=false:=by
  rw [decide_eq_false_iff_not]
  intro e
  have:=congrArg Str.cps e
  simp at this
 rw [hne,if_pos (by decide)]
 exact wpAny_bind (wpAny_pure (wpAny_pure ⟨_,rfl,wpAny_pure (h g1 s1 _ l1 R1 r1)⟩))
theorem zn4 {full:List Nat} {place:Nat} (h:full[place]? = none):(full.drop place).take 1=[]:=by
 rw [List.drop_eq_nil_of_le (List.getElem?_eq_none_iff.mp h)]; rfl
theorem zM0 (RC:zs1 K n) {c l:Addr} {full:List Nat} {place:Nat} {line:Int} {push:List W} {E:Value→Shared→Prop} {Q:Option Value→Shared→Prop} (hF : ∃ o fd,K.s₀.heap.get? K.lexR=some o∧o.data = .func fd)
  (F:Fit K (n+1) A) (R:Rep K g env ρ σ s) (hm:(c,O.citer l false)∈σ) (hpl:(place:Int)<2 ^ 59) (hch:full[place]? = none)
  (hs:SetO σ l (.lex full place line push) (.lex full (place+1) line push) σ₁) (hs2:SetO σ₁ c (.citer l false) (.citer l true) σ')
  (h : ∀ g' s',g.le g'→Rep K g' env ρ σ' s'→Q none s'):wpAny (KM K) A (pyNext (.ref c)) Q E s:=by
 refine zc5 (R.citer hm) fun _ bm tk t1 t2 hc hbm=>?_
 unfold pyNext
 refine wpAny_bind (wpAny_attempt (wpAny_callSpecial?_slot (name:=Str.ofString "__next__") (T := "callable_iterator") ⟨_,hc,rfl⟩ slot_citer_next
  (wpAny_call_entry slot_citer_next ⟨_,hc,rfl⟩ ze3 ?_ (ze9 _))))
 unfold Builtin.«callable_iterator.__next__»
 refine wpAny_bind (m:=slotArgs "__next__" 0 _) (wpAny_of_eq (a:=(Value.ref c,[])) rfl ?_)
 dsimp only
 refine wpAny_bind (wpAny_field hc rfl (x:=.bool false) rfl ?_)
 rw [if_neg (by decide)]
 refine wpAny_bind (wpAny_field hc rfl (x:=.ref bm) rfl ?_)
 refine wpAny_bind (wpAny_attempt (zu5 RC hF F.in1 R hbm hpl (by rw [if_neg (by rw [hch]; simp)]; exact hs) fun g1 s1 u l1 R1 r1=>?_))
 dsimp only
 refine zc7 hs2.split fun S1 S2 e1 e2=>?_
 have hm1:(c,O.citer l false)∈σ₁:=by rw [e1]; simp
 refine zc5 (R1.citer hm1) fun tc bm1 tk1 q1 q2 hc1 hbm1=>?_
 refine wpAny_bind (wpAny_field hc1 rfl (x:=.bool false) rfl ?_)
 rw [if_neg (by decide)]
 refine wpAny_bind (wpAny_field hc1 rfl (x:=.str ⟨#[]⟩ tk1) rfl ?_)
 rw [zn4 hch] at r1
 simp only [RW] at r1
 (refine obAE r1 fun _ tu zq2=>?_; subst zq2)
 refine wpAny_bind (wpAny_holding (wpAny_eqBool_str ?_))
 rw [if_neg (by decide)]
 refine wpAny_bind (wpAny_rule ?_)
 refine zc7 hF fun o fd ho hd=>?_
 have ho1:=R1.keeps _ _ ho
 show wpAny _ _ ((do slotLetsGo "callable_iterator.__next__" (← field (.ref c) 0) _; setField (.ref c) 0 .none; setField (.ref c) 1 .none; setField (.ref c) 2 (.bool true)) >>= _) _ _ s1
 refine wpAny_bind (wpAny_bind (wpAny_field hc1 rfl (x:=.ref bm1) rfl ?_))
 unfold slotLetsGo
 refine wpAny_bind (wpAny_bind (zj6 hbm1 ho1 hd ?_))
 rw [if_pos rfl]
 refine wpAny_pure ?_
 refine wpAny_bind (wpAny_setField hc1 rfl (by simp) ?_)
 have h2:=Heap.get?_update_self (Obj.mapFields (·.setIfInBounds 0 .none)) hc1 rfl
 refine wpAny_bind (wpAny_setField h2 rfl (by simp) ?_)
 have h3:=Heap.get?_update_self (Obj.mapFields (·.setIfInBounds 1 .none)) h2 rfl
 refine wpAny_setField h3 rfl (by simp) ?_
 have h4:=Heap.get?_update_self (Obj.mapFields (·.setIfInBounds 2 (.bool true))) h3 rfl
 let hN:=((s1.heap.update c (Obj.mapFields (·.setIfInBounds 0 .none))).update c (Obj.mapFields (·.setIfInBounds 1 .none))).update c (Obj.mapFields (·.setIfInBounds 2 (.bool true)))
 have hk : ∀ b,b≠c→hN.get? b=s1.heap.get? b:=fun b hb=>by
  show (((s1.heap.update c _).update c _).update c _).get? b=_
  rw [Heap.get?_update_other _ _ (Ne.symm hb),Heap.get?_update_other _ _ (Ne.symm hb),Heap.get?_update_other _ _ (Ne.symm hb)]
 have R2:Rep K g1 env ρ σ' { s1 with heap:=hN,toks:=s1.toks }:=by
  subst e2
  refine R1.obWriteT (o:=.citer l true) tc e1 (fun b t hb ht=>hk b (fun e=>by subst e; rw [tc] at hb; cases hb; exact ht rfl)) (fun b hb=>?_) ⟨tc,by rw [if_pos rfl]; exact h4⟩
  by_cases e:b=c
  ·subst e; exact ⟨_,h4⟩
  ·obtain ⟨o2,ho2⟩:=R1.live b _ hb
   exact ⟨o2,(hk b e).trans ho2⟩
 show wpAny _ _ (do raiseNew (← newExc (.type "StopIteration") [])) _ _ _
 refine zv2 (s:={ s1 with heap:=hN }) (HdOk.freeA R2 F.in1.hand) fun h' a o' ho' hc' _ hkk=>?_
 refine wpAny_bind (wpAny_isInstance (T := "StopIteration") (b:=true) ⟨_,ho',hc'⟩ isSubtype_stop ?_)
 exact wpAny_pure (h g1 _ l1 (R2.heap (tk:=s1.toks) fun b t o _ e=>hkk b o e))
theorem zM1 {c l:Addr} {E:Value→Shared→Prop} {Q:Option Value→Shared→Prop} (F:Fit K (n+1) A) (R:Rep K g env ρ σ s) (hm:(c,O.citer l true)∈σ) (h : ∀ g' s',g.le g'→Rep K g' env ρ σ s'→Q none s'):wpAny (KM K) A (pyNext (.ref c)) Q E s:=by
 have hc:s.heap.get? c=some { cls:=.type "callable_iterator",data:=.fields #[.none,.none,.bool true] }:=(R.ob c _ hm).2
 unfold pyNext
 refine wpAny_bind (wpAny_attempt (wpAny_callSpecial?_slot (name:=Str.ofString "__next__") (T := "callable_iterator") ⟨_,hc,rfl⟩ slot_citer_next
  (wpAny_call_entry slot_citer_next ⟨_,hc,rfl⟩ ze3 ?_ (ze9 _))))
 unfold Builtin.«callable_iterator.__next__»
 refine wpAny_bind (m:=slotArgs "__next__" 0 _) (wpAny_of_eq (a:=(Value.ref c,[])) rfl ?_)
 dsimp only
 refine wpAny_bind (wpAny_field hc rfl (x:=.bool true) rfl ?_)
 rw [if_pos (by decide)]
 refine wpAny_bind (wpAny_rule ?_)
 refine wpAny_bind ?_
 show wpAny _ _ (do raiseNew (← newExc (.type "StopIteration") [])) _ _ _
 refine zv2 (HdOk.freeA R F.in1.hand) fun h' a o' ho' hc' _ hkk=>?_
 refine wpAny_bind (wpAny_isInstance (T := "StopIteration") (b:=true) ⟨_,ho',hc'⟩ isSubtype_stop ?_)
 exact wpAny_pure (h g _ (.refl _) (R.heap (tk:=s.toks) fun b t o _ e=>hkk b o e))
end
inductive CNext (c:Addr):List (Addr × O)→Option Nat→List (Addr × O)→Prop
 | got {σ σ':List (Addr × O)} {l:Addr} {full:List Nat} {place:Nat} {line:Int} {push:List W} {y:Nat}:(c,O.citer l false)∈σ→(c,O.citer l false)∈σ'→((place:Nat):Int)<2 ^ 59→full[place]? = some y→SetO σ l (.lex full place line push) (.lex full (place+1) (if y=10 then line+1 else line) push) σ'→CNext c σ (some y) σ'
 | eof {σ σ₁ σ':List (Addr × O)} {l:Addr} {full:List Nat} {place:Nat} {line:Int} {push:List W}:(c,O.citer l false)∈σ→((place:Nat):Int)<2 ^ 59→full[place]? = none→SetO σ l (.lex full place line push) (.lex full (place+1) line push) σ₁→SetO σ₁ c (.citer l false) (.citer l true) σ'→CNext c σ none σ'
 | over {σ:List (Addr × O)} {l:Addr}:(c,O.citer l true)∈σ→CNext c σ none σ
inductive LoopR (K:Kc) (n:Nat) (env:Env) (c:Addr) (x:Str) (body:List Stmt):Nat→Lo→List (Addr × O)→Out→Lo→List (Addr × O)→Prop
 | stop {ρ:Lo} {σ σ':List (Addr × O)}:CNext c σ none σ'→LoopR K n env c x body 0 ρ σ .next ρ σ'
 | turn {k:Nat} {ρ ρb ρ1 ρ':Lo} {σ σ1 σ2 σ':List (Addr × O)} {o:Out} {y:Nat}:CNext c σ (some y) σ1→SetV ρ x (.w (.str [y])) ρb→(Ex K n env ρb σ1 body .next ρ1 σ2∨Ex K n env ρb σ1 body .cont ρ1 σ2)→LoopR K n env c x body k ρ1 σ2 o ρ' σ' →
   LoopR K n env c x body (k+1) ρ σ o ρ' σ'
 | ret {ρ ρb ρ':Lo} {σ σ1 σ':List (Addr × O)} {y:Nat} {v:V}:CNext c σ (some y) σ1→SetV ρ x (.w (.str [y])) ρb→Ex K n env ρb σ1 body (.ret v) ρ' σ'→LoopR K n env c x body 0 ρ σ (.ret v) ρ' σ'
section
variable {K:Kc} {n m:Nat} {env cenv ce:Env} {ρ ρ' ρ₁ ρ₂ ρ₃ ρ₀ ρc:Lo} {σ σ' σ₀ σ₁ σ₂ σ₃:List (Addr × O)} {g g₀ g₁ g₂ g₄:Gh} {s s₀ s' s₄:Shared} {A:Around} {items:List W} {mN:Str→Option Value}
theorem CNext.ok (RC:zs1 K n) (hF : ∃ o fd,K.s₀.heap.get? K.lexR=some o∧o.data = .func fd) {c:Addr} {r:Option Nat} (x:CNext c σ r σ') {E:Value→Shared→Prop} {Q:Option Value→Shared→Prop} (F:Fit K (n+1) A) (R:Rep K g env ρ σ s)
  (h : ∀ g' s' o,g.le g'→Rep K g' env ρ σ' s'→(match r with | some ch=>∃ u,o=some u∧RW g' (.str [ch]) u | none=>o=none)→Q o s'):wpAny (KM K) A (pyNext (.ref c)) Q E s:=by
 cases x with
 | got h1 h2 h3 h4 h5 =>
  refine zL9 RC hF F R h1 h2 h3 h4 (by rw [h4]; simpa using h5) fun g' s' u l R' r'=>h g' s' _ l R' ⟨u,rfl,r'⟩
 | eof h1 h2 h3 h4 h5=>exact zM0 RC hF F R h1 h2 h3 h4 h5 fun g' s' l R'=>h g' s' _ l R' rfl
 | over h1=>exact zM1 F R h1 fun g' s' l R'=>h g' s' _ l R' rfl
theorem Ex1.forC (RC:zs1 K n) (hF : ∃ o fd,K.s₀.heap.get? K.lexR=some o∧o.data = .func fd) {x fit:Str} {px pf pos:Pos} {c:Addr} {body:List Stmt} {k:Nat} {o:Out} (h1:Ev K (n+1) env ρ (.Name fit pf) σ (.ref c) σ)
  (hc:(∃ l b,(c,O.citer l b)∈σ)) (L:LoopR K (n+1) env c x body k ρ σ o ρ' σ') (hs : ∀ x,foldedSetIterable (.Name fit pf) env x=pure x:=by intro _; rfl) :
  Ex1 K (n+1) env ρ σ (.For (.Name x px) (.Name fit pf) body [] pos) o ρ' σ':=.mk fun A E s Q g F R h=>by
 refine wpAny_For (h1 F R fun g₀ s₀ u l₀ R₀ r₀=>?_) hs
 obtain rfl:=RV.refE r₀
 have hT:s₀.TypeIs (.ref c) "callable_iterator" := by
  obtain ⟨l,b,hm⟩:=hc
  cases b with
  | false=>obtain ⟨_,bm,tk,_,_,hc,_⟩:=R₀.citer hm; exact ⟨_,hc,rfl⟩
  | true=>exact ⟨_,(R₀.ob c _ hm).2,rfl⟩
 refine wpAny_pyIter_slot hT zh4 (wpAny_call_entry zh4 hT zn6 ?_ (zr9 _))
 show wpAny _ _ (PySem.ret (.ref c)) _ _ s₀
 refine wpAny_pure ⟨_,rfl,"callable_iterator",_,hT,slot_citer_next.lookup,?_⟩
 refine codeAny_forLoop_any (fun m s'=>∃ ρ σ g',g₀.le g'∧Rep K g' env ρ σ s'∧LoopR K (n+1) env c x body m ρ σ o ρ' σ') ?_ k ⟨ρ,σ,g₀,.refl _,R₀,L⟩
 rintro m s' ⟨ρ,σ,g',hle,R',L'⟩
 cases L' with
 | stop hn =>
  refine hn.ok RC hF F R' fun g2 s2 ov l2 R2 h2=>?_
  simp only at h2; subst h2
  exact wpAny_execs_nil (h g2 s2 .next ((l₀.trans hle).trans l2) R2 rfl)
 | turn hn hv hb hL =>
  refine hn.ok RC hF F R' fun g2 s2 ov l2 R2 h2=>?_
  obtain ⟨u,rfl,hu⟩:=h2
  refine wpAny_of_eq (a:=()) rfl ?_
  refine wpAny_assign_Name (zb4 R2 hv hu fun s3 R3=>?_)
  rcases hb with hb | hb
  ·refine hb F R3 fun g4 s4 f l4 R4 r4=>?_
   obtain rfl:=RF.nextE r4
   exact ⟨_,Nat.lt_succ_self _,_,_,g4,(hle.trans l2).trans l4,R4,hL⟩
  ·refine hb F R3 fun g4 s4 f l4 R4 r4=>?_
   obtain rfl:=RF.contE r4
   exact ⟨_,Nat.lt_succ_self _,_,_,g4,(hle.trans l2).trans l4,R4,hL⟩
 | ret hn hv hb =>
  refine hn.ok RC hF F R' fun g2 s2 ov l2 R2 h2=>?_
  obtain ⟨u,rfl,hu⟩:=h2
  refine wpAny_of_eq (a:=()) rfl ?_
  refine wpAny_assign_Name (zb4 R2 hv hu fun s3 R3=>?_)
  refine hb F R3 fun g4 s4 f l4 R4 r4=>?_
  simp only [RF] at r4; obtain ⟨w,rfl,r4⟩:=r4
  exact h g4 s4 (.ret w) (((l₀.trans hle).trans l2).trans l4) R4 ⟨w,rfl,r4⟩
end
end Mine
namespace Mine
noncomputable def isWs (c:Nat):Bool:=c==10||c==9||c==13||c==32
theorem yh2 : ∀ c:Fin 128,Txt.contains ⟨#[10,9,13,32]⟩ ⟨[c.val].toArray⟩=isWs c.val:=by decide +kernel
theorem ws_eq {c:Nat} (h:c<128):Txt.contains ⟨[10,9,13,32].toArray⟩ ⟨[c].toArray⟩=isWs c:=yh2 ⟨c,h⟩
section
variable {K:Kc} {n:Nat}
theorem Opn.inS {p q:List Nat} {c:Bool} (hc:Txt.contains ⟨q.toArray⟩ ⟨p.toArray⟩=c):Opn K n (compareOp .In) (.str p) (.str q) (.bool c):=.mk fun A E s Q g env ρ σ u v F R hu hv h=>by
 simp only [RW] at hu hv
 (refine obAE hu fun _ t1 zq2=>?_; subst zq2)
 (refine obAE hv fun _ t2 zq2=>?_; subst zq2)
 refine SB.contains ?_
 rw [hc]
 exact h _ _ _ (.refl _) R (by simp only [RW])
end
noncomputable def tokQ:List Nat→List Nat × Nat
 | []=>([],1)
 | 34::_=>([],1)
 | [92]=>([],3)
 | 92::c::r=>(c::(tokQ r).1,(tokQ r).2+2)
 | c::r=>(c::(tokQ r).1,(tokQ r).2+1)
noncomputable def tokW:List Nat→List Nat × Nat
 | []=>([],1)
 | [92]=>([],3)
 | 92::c::r=>(c::(tokW r).1,(tokW r).2+2)
 | c::r=>if isWs c then ([],1) else (c::(tokW r).1,(tokW r).2+1)
noncomputable def tokO:List Nat→List Nat × Nat
 | []=>([],1)
 | 34::r=>((tokQ r).1,(tokQ r).2+1)
 | [92]=>([],3)
 | 92::c::r=>(c::(tokW r).1,(tokW r).2+2)
 | c::r=>if isWs c then ((tokO r).1,(tokO r).2+1) else (c::(tokW r).1,(tokW r).2+1)
noncomputable def nlUp:List Nat→Int→Int
 | [],l=>l
 | c::_,l=>if c=10 then l+1 else l
noncomputable def lnUp:List Nat→Int→Nat→Int
 | _,l,0=>l
 | r,l,k+1=>lnUp r.tail (nlUp r l) k
theorem zX9 (l:Int) (k:Nat):lnUp [] l k=l:=by
 induction k with
 | zero=>rfl
 | succ k ih=>exact ih
theorem zv0 : ∀ r,(tokQ r).1.length≤r.length∧0<(tokQ r).2∧(tokQ r).2≤r.length+2
 | []=>by simp [tokQ]
 | [c]=>by
  unfold tokQ
  split <;> simp_all [tokQ]
 | c::d::r=>by
  have h1:=zv0 (d::r)
  have h2:=zv0 r
  unfold tokQ
  split
  ·simp
  ·simp
  ·simp
  ·rename_i e; simp only [List.cons.injEq] at e; (have zq0:=e.1; have zq1:=e.2.1; have zq2:=e.2.2; subst zq0; subst zq1; subst zq2)
   simp only [List.length_cons]; lia
  ·rename_i e; simp only [List.cons.injEq] at e; (have zq0:=e.1; have zq1:=e.2; subst zq0; subst zq1)
   simp only [List.length_cons] at h1 ⊢; lia
end Mine
namespace Mine
open Builtin Builtin.ObjectAttr
theorem yl1:Slot "function" "__setattr__" "object.__setattr__" :=
 .of (owner := "object") (n := "__setattr__") (by rw [typeLookup_type,builtinLookup_eq_fast]; kernel_rfl) (by decide +kernel) (by decide +kernel) (by decide +kernel)
  (by first | exact .inl (by decide +kernel) | exact .inr (by decide +kernel)) (by rw [isSubtype_type]; kernel_rfl)
theorem zF4:typeLookup (.type "function") "read" = pure none:=by rw [typeLookup_type,builtinLookup_eq_fast]; kernel_rfl
theorem zz2:entryFor table "object.__setattr__" = some Builtin.«object.__setattr__» := entryFor_of_tree (by kernel_rfl)
theorem zD8 (a b c:Value):argsOk "object.__setattr__" ⟨[a,b,c],[]⟩:=by unfold argsOk; kernel_rfl
theorem yf6:mroOf (.type "function")=pure [.type "function",.type "object"]:=by kernel_rfl
section
variable {prog:Program} {w:World} {A:Around} {E:Value→Shared→Prop} {h:Heap} {g:Array GenState} {d:Drawn} {t:Nat} {os:OsState} {f:Addr} {o:Obj} {v:Value}
theorem yl0 {tk:Tok} {Q:Fin→Shared→Prop} (hf:h.get? f=some o) (hc:o.cls = .type "function") (hdn:o.dict=none) (hnc : ∀ c,o.data ≠ .cls c)
  (hq : ∀ h' tk' d',h'.get? f=some { o with dict:=some d' }→h.get? d'=none→d'<h'.objs.size→h'.Ns d' (fun x=>if x=("read" : Str) then some v else none)→(∀ b ob,b≠f→h.get? b=some ob→h'.get? b=some ob)→h.objs.size≤h'.objs.size→Q (.done (.ret .none)) ⟨h',g,d,tk',os⟩) :
  wpAny (model prog w) A (Builtin.«object.__setattr__» ⟨[.ref f,.str "read" tk,v],[]⟩) Q E ⟨h,g,d,t,os⟩:=by
 have hTf:(⟨h,g,d,t,os⟩:Shared).TypeIs (.ref f) "function" := ⟨_,hf,hc⟩
 have f1:=zF4
 have f2:=yf6
 unfold Builtin.«object.__setattr__»
 repeat (first | rw [refuse_eq] | (with_reducible refine wpAny_loadPart_at hf ?_; rw [hc]) | (with_reducible refine wpAny_typeOf hTf ?_) | wp_step)
 rw [hdn,if_neg (by rw [show typeHasDict (.type "function")=true by decide +kernel]; decide)]
 split
 ·rename_i hcd
  cases hcd
 split
 ·rename_i c hcd
  exact absurd hcd (hnc c)
 ·have hx₁:(h.push { cls:=.type "dict",data:=.dict #[] }).get? f=some o:=Heap.get?_push_of_some _ hf
  have hxs:f≠h.objs.size:=Nat.ne_of_lt (Heap.lt_size hf)
  refine wpAny_bind (wpAny_alloc' ?_)
  refine wpAny_bind (wpAny_update' hx₁ ?_)
  refine wpAny_pure ?_
  have hgd:((h.push { cls:=.type "dict",data:=.dict #[] }).update f fun o=>{ cls:=o.cls,dict:=some h.objs.size,data:=o.data,slots:=o.slots }).get? h.objs.size
    = some { cls:=.type "dict",data:=.dict #[] } :=
   (Heap.get?_update_ne _ _ _ _ hxs.symm).trans (Heap.get?_push_at rfl rfl)
  have hnd:((h.push { cls:=.type "dict",data:=.dict #[] }).update f fun o=>{ cls:=o.cls,dict:=some h.objs.size,data:=o.data,slots:=o.slots }).Ns h.objs.size (fun _=>none) :=
   ⟨_, #[],_,hgd,rfl,fun e he=>absurd he (by simp),fun _=>rfl⟩
  show wpAny _ _ (storeInDict h.objs.size (.str "read" tk) "read" v) _ _ _
  unfold storeInDict newKeyGuard
  refine wpAny_bind (wpAny_pure (wpAny_bind (wpAny_nsSet1EFk (Heap.Ns1.of_empty hnd) fun h' hn' hs hkeepD=>?_)))
  refine zE1 (hn'.count (Within.cons ("read" : Str) v Within.nil)) fun oD esD epD hoD hdD hcD=>?_
  refine wpAny_bind (wpAny_lookBehind hoD (by rw [hdD]; exact pastItsLine_dict (Nat.le_trans hcD (by rw [List.length_cons,List.length_nil,sizeLine_eq]; lia))) ?_)
  wp_walk
  have hx':h'.get? f=some { cls:=o.cls,dict:=some h.objs.size,data:=o.data,slots:=o.slots }:=?_
  ·refine hq h' _ h.objs.size hx' (Heap.get?_none_of_le (Nat.le_refl _)) (Heap.lt_size hoD) hn'.ns (fun b ob hbx hb=>?_) ?_
   ·exact (hs.2 b (Nat.ne_of_lt (Heap.lt_size hb))).trans ((Heap.get?_update_ne _ _ _ _ hbx).trans (Heap.get?_push_of_some _ hb))
   ·exact Nat.le_of_lt (Heap.lt_size hoD)
  ·refine (hs.2 f hxs).trans (Heap.get?_update_self _ hx₁ ?_)
   have hfr:=(Heap.get?_some_iff.mp hf).2
   obtain ⟨oc,od,odt,osl⟩:=o
   cases odt <;> first | rfl | exact hfr
theorem zL5 {Q:Unit→Shared→Prop} (hf:h.get? f=some o) (hc:o.cls = .type "function") (hdn:o.dict=none) (hnc : ∀ c,o.data ≠ .cls c)
  (hq : ∀ h' tk' d',h'.get? f=some { o with dict:=some d' }→h.get? d'=none→d'<h'.objs.size→h'.Ns d' (fun x=>if x=("read" : Str) then some v else none)→(∀ b ob,b≠f→h.get? b=some ob→h'.get? b=some ob)→h.objs.size≤h'.objs.size→Q () ⟨h',g,d,tk',os⟩) :
  wpAny (model prog w) A (setAttr (.ref f) "read" v) Q E ⟨h,g,d,t,os⟩:=by
 unfold setAttr
 refine wpAny_bind (wpAny_mkText ?_)
 refine wpAny_bind (wpAny_callSpecial?_slot (T := "function") ⟨_,hf,hc⟩ yl1 ?_)
 refine wpAny_call_entry yl1 ⟨_,hf,hc⟩ zz2 ?_ (zD8 _ _ _)
 refine yl0 hf hc hdn hnc fun h' tk' d' h1 h2 h3 h4 h5 h6=>?_
 exact ⟨_,rfl,wpAny_pure (hq h' tk' d' h1 h2 h3 h4 h5 h6)⟩
end
theorem zx1 {q:Pos} {a b:Int} {c cv:Value} (l:List Value) (h:TriplesOk l) (hf:codeAmong q (l++[rawInt a,rawInt b,c])=some cv):codeAmong q l=some cv∨((a==(q.line:Int)&&b==(q.col:Int))=true∧cv=c):=by
 fun_induction TriplesOk l with
 | case1 =>
  simp only [List.nil_append,codeAmong,rawInt] at hf
  split at hf
  ·rename_i hc; cases hf; exact .inr ⟨hc,rfl⟩
  ·cases hf
 | case2 a' t b' u x rest ih =>
  simp only [List.cons_append,codeAmong] at hf ⊢
  split at hf
  ·rename_i hc; rw [if_pos hc]; exact .inl hf
  ·rename_i hc; rw [if_neg hc]; exact ih h hf
 | case3 l h1 h2=>exact h.elim
theorem BuiltinsAt.keeps {h h':Heap} {mg:Str→Option Value} {P:Addr} (x:h.BuiltinsAt mg P) (k : ∀ b o,h.get? b=some o→h'.get? b=some o):h'.BuiltinsAt mg P :=
 let ⟨bm,o,h1,h2,h3,h4,h5,h6⟩:=x; ⟨bm,o,h1,h2,h3,h4,k _ _ h5,h6⟩
section
variable {K:Kc} {n m:Nat} {env cenv ce:Env} {ρ ρ' ρ₁ ρ₂ ρ₃ ρ₀ ρc:Lo} {σ σ' σ₀ σ₁ σ₂ σ₃:List (Addr × O)} {g g₀ g₁ g₂ g₄:Gh} {s s₀ s' s₄:Shared} {A:Around} {items:List W} {mN:Str→Option Value} {E:Value→Shared→Prop}
theorem Rep.reO (R:Rep K g env ρ σ s) {a:Addr} {o:O} {A B:List (Addr × O)} {oo:O} (hσ:σ=A++(a,oo)::B) (ho:ObjAt K g s.heap a o) (ha:g.tag a=some (.obj a)):Rep K g env ρ (A++(a,o)::B) s:=by
 have:=R.obWriteT (h':=s.heap) (tk:=s.toks) (o:=o) ha hσ (fun _ _ _ _=>rfl) (fun b hb=>R.live b _ hb) ho
 exact this
structure FunNew (K:Kc) (g:Gh) (h h':Heap) (P r:Addr) (name qual:Str) (params:Arguments) (body:FuncBody) (scope:Scope) (clos:List (Str × Addr)) (g':Gh):Prop where
 obj : ∃ cc doc ctv,h'.get? r=some { cls:=.type "function",data:=.func (kdv_fn name qual params body scope clos .none doc ((K.mg "__name__").getD .none) (.ref cc) ctv) }∧CodeIn g' cc qual
 old : ∀ b o,b≠P→h.get? b=some o→h'.get? b=some o
 tags : ∀ b,b<h.objs.size→g'.tag b=g.tag b
 fresh:g'.tag r=none
 ge:h.objs.size≤r
 lt:r<h'.objs.size
theorem yj0 (R:Rep K g env ρ σ s) {P c:Addr} {cs:List (Pos × Str)} {name qual:Str} {params:Arguments} {body:FuncBody} {scope:Scope} {clos:List (Str × Addr)} {pos:Pos} {line:Nat} {Q:Value→Shared→Prop}
  (hP:(P,O.codes cs)∈σ) (hcode:env.code = .ref c) (C:CodeHd K.s₀.heap c P) (hb:K.s₀.heap.BuiltinsAt K.mg P) (hcs:(pos,qual)∈cs) (hcl:closureFor scope env=pure clos)
  (hd : ∀ p∈cs,((pos.line:Int)==(p.1.line:Int)&&(pos.col:Int)==(p.1.col:Int))=true→p.2=qual)
  (h : ∀ g' h' tk r,g.le g'→Rep K g' env ρ σ { s with heap:=h',toks:=tk }→FunNew K g s.heap h' P r name qual params body scope clos g'→Q (.ref r) { s with heap:=h',toks:=tk }) :
  wpAny (KM K) A (makeFunction name qual params body scope env [] [] [] pos line) Q E s:=by
 rw [makeFunction_eq]
 simp only [List.zip_nil_right,List.filterMap_nil,List.isEmpty_nil,if_true,pure_bind]
 refine yb6 (R.ob P _ hP) fun ht ps hPs htr hall=>?_
 have hng:=R.G.ng.keeps R.keeps
 have hB:=BuiltinsAt.keeps hb R.keeps
 have hC:=C.keeps R.keeps
 have hPne:mainGlobals≠P:=by
  intro e
  refine zd9 R.G.ng fun o _ _ ho _=>?_
  have:=(R.gnd _ _ ho).1
  rw [e,ht] at this; cases this
 cases hcode':codeAmong pos ps.toList with
 | some cv =>
  (refine obEA (hall _ hcs cv hcode') fun cc zq1 hci=>?_; subst zq1)
  refine kdv_makeTailHit hcl R.fr.glob hng hcode hC hPs htr hcode' hB fun ctv doc h' tk hk hge=>?_
  have R1:=R.heap (h':=h'.push { cls:=.type "function",data:=.func (kdv_fn name qual params body scope clos .none doc ((K.mg "__name__").getD .none) (.ref cc) ctv) }) (tk:=tk) fun b t o _ e=>Heap.get?_push_of_some _ (hk b o e)
  refine h g _ _ _ (.refl _) R1 ⟨⟨cc,doc,ctv,Heap.get?_push_size _ rfl,hci⟩,fun b o _ e=>Heap.get?_push_of_some _ (hk b o e),fun _ _=>rfl,?_,hge,by rw [Heap.size_push]; exact Nat.lt_succ_self _⟩
  cases e:g.tag h'.objs.size with
  | none=>rfl
  | some t=>exact absurd (R.lt e) (Nat.not_lt.mpr hge)
 | none =>
  refine kdv_makeTail hcl R.fr.glob hng hcode hC hPs htr hcode' hPne hB fun c' ctv doc h' tk hx hge hlt hrec hP'=>?_
  refine zP9 hrec fun c'' oc vs tq e0 hoc hdc hq=>?_
  cases e0
  refine obEE (List.append_of_mem hP) fun S1 S2 hσ=>?_
  have hlt' : ∀ {b t},g.tag b=some t→b<s.heap.objs.size:=fun e=>R.lt e
  have hnone : ∀ b,s.heap.objs.size≤b→g.tag b=none:=fun b hb=>by
   cases e:g.tag b with
   | none=>rfl
   | some t=>exact absurd (R.lt e) (Nat.not_lt.mpr hb)
  have Ra:=R.obWriteT (h':=h') (tk:=tk) (o:=.codes []) ht hσ (fun b t hb' hn=>by
   obtain ⟨o,ho⟩:=R.live b t hb'
   rw [ho]
   exact hx b o (fun e=>by subst e; rw [ht] at hb'; cases hb'; exact hn rfl) ho) (fun b hb=>by
   by_cases e:b=P
   ·subst e; exact ⟨_,hP'⟩
   ·obtain ⟨o,ho⟩:=R.live b _ hb
    exact ⟨o,hx b o e ho⟩) ⟨ht,_,hP',by rw [Array.toList_append]; exact TriplesOk_snoc _ _ _ _ htr,fun p hp=>(nomatch hp)⟩
  have nc:=hnone c' hge
  have Rb:=Ra.tagAs (t:=.base) hoc nc
  have l1:g.le (g.set c' (some .base) oc):=Gh.le_set nc
  have hPc:P≠c':=fun e=>by subst e; rw [nc] at ht; cases ht
  have ci:CodeIn (g.set c' (some .base) oc) c' qual:=⟨(g.set_self _ _ _).1,vs,tq,by rw [(g.set_self _ _ _).2]; exact hdc,hq⟩
  have ht':(g.set c' (some .base) oc).tag P=some (.obj P):=by rw [(g.set_ne _ _ hPc).1]; exact ht
  have Rc:=Rb.reO (o:=.codes cs) rfl ⟨ht',_,hP',by rw [Array.toList_append]; exact TriplesOk_snoc _ _ _ _ htr,fun p hp cv hf=>by
   rw [Array.toList_append] at hf
   rcases zx1 _ htr hf with e | ⟨e,rfl⟩
   ·refine obEA (hall p hp cv e) fun c2 q1 q2=>?_
    exact ⟨c2,q1,q2.mono l1.leB⟩
   ·exact ⟨c',rfl,by rw [hd p hp e]; exact ci⟩⟩ ht'
  rw [← hσ] at Rc
  have Rd:=Rc.push (kdv_obj name qual params body scope clos .none doc ((K.mg "__name__").getD .none) c' ctv)
  refine h _ _ _ _ l1 Rd ⟨⟨c',doc,ctv,Heap.get?_push_size _ rfl,ci⟩,fun b o hb e=>Heap.get?_push_of_some _ (hx b o hb e),fun b hb=>(g.set_ne _ _ (Nat.ne_of_lt (Nat.lt_of_lt_of_le hb hge))).1,?_,Nat.le_of_lt (Nat.lt_of_le_of_lt hge hlt),by rw [Heap.size_push]; exact Nat.lt_succ_self _⟩
  rw [(g.set_ne _ _ (Nat.ne_of_gt hlt)).1]
  exact hnone _ (Nat.le_of_lt (Nat.lt_of_le_of_lt hge hlt))
end
end Mine
namespace Mine
open Builtin Builtin.ObjectAttr
section
variable {K:Kc} {n m:Nat} {env cenv ce:Env} {ρ ρ' ρ₁ ρ₂ ρ₃ ρ₀ ρc:Lo} {σ σ' σ₀ σ₁ σ₂ σ₃:List (Addr × O)} {g g₀ g₁ g₂ g₄:Gh} {s s₀ s' s₄:Shared} {A:Around} {items:List W} {mN:Str→Option Value} {E:Value→Shared→Prop}
theorem zB3 {a:Addr} {fd:FuncData} {ps:List Str} {body:List Stmt} {vs:List V} {us:List Value} {S:Result→Shared→Prop} (FA:FnAt K a fd) (hbody:fd.body = .stmts body)
  (hbind : ∀ us:List Value,us.length=vs.length→bindArgs fd ⟨us,[]⟩=pure (ps.zip us)) (P:Pars fd.scope ps vs ρ) (F:Fit K (n+1) A) (R:Rep K g env ρ₀ σ s) (hu:RVs g vs us)
  (hb : ∀ ce fr h1 tk,ce=callEnvC fd s.heap.objs.size a→Fit K n (A.deeper ce)→Rep K (g.swap s.heap fr) ce ρ σ { s with heap:=h1,toks:=tk }→(∀ b o,s.heap.get? b=some o→h1.get? b=some o)→(∀ b,fr b=true→s.heap.objs.size≤b) →
   wpAny (KM K) (A.deeper ce) (execs body ce) (fun f s'=>S (.ok (.ret (match f with | .ret v=>v | _=>.none))) s')
    (fun e s'=>wpAny (KM K) (A.deeper ce) (leaving ce e) (fun _ s''=>S (.error e) s'') (fun e' s''=>S (.error e') s'') s') { s with heap:=h1,toks:=tk })
  (hco:fd.scope.isCoroutine=false:=by rfl) (hgen:fd.scope.isGenerator=false:=by rfl) (hk:fd.scope.kind = .function:=by rfl):codeAny (KM K) A (.call (.ref a) ⟨us,[]⟩) S s:=by
 refine obEA FA.get fun oa hoa hda=>?_
 have hz:=hu.length
 have hp:=P.len
 refine codeAny_call_cells (fd:=fd) (body:=body) (binds:=ps.zip us) (by have:=F.depth; show A.depth<1000; lia) (R.keeps _ _ hoa) hda (R.G.lim.keeps R.keeps) (FA.code.keeps R.keeps) hbody
  (hbind us hz) FA.clo (fun x hx=>?_) (fun s₁ X=>?_) hco hgen hk
 ·rcases P.pk x.1 (List.of_mem_zip hx).1 with q | q
  ·exact .inl q
  ·exact .inr ⟨q,zb0 _ _ _ _ q⟩
 ·have hnames:((ps.zip us).map (·.1))=ps:=List.map_fst_zip (by lia)
  have hndz:((ps.zip us).map (·.1)).Nodup:=by rw [hnames]; exact P.pnd
  generalize hce:callEnvC fd s.heap.objs.size a=ce at X ⊢
  have hsc:ce.scope=fd.scope:=by rw [← hce]; rfl
  have hcl:ce.cells=cellsFrom (s.heap.objs.size+1) fd.scope.names []:=by rw [← hce]; rfl
  let fr:Addr→Bool:=fun b=>decide (b=ce.locals)||ce.cells.any fun c=>decide (c.2=b)&&decide (ce.cells.lookup c.1=some c.2)
  have hko : ∀ x,ce.kindOf x=fd.scope.names.lookup x:=fun x=>by rw [Env.kindOf,hsc]
  have hvals : ∀ x ov,(x,ov)∈ρ.v→∀ w:Value,True→(ov=none∨∃ u,(x,u)∈ps.zip us∧OV (g.swap s.heap fr) ov (some u)):=by
   intro x ov hx _ _
   cases ov with
   | none=>exact .inl rfl
   | some v' =>
    refine obEA (P.val x v' hx) fun i h1 h2=>?_
    refine obEA (hu.get i h2) fun u h3 h4=>?_
    exact .inr ⟨u,zg3 h1 h3,h4.mono (g.swap_le _ _).leB⟩
  have fresh : ∀ b,fr b=true→g.tag b=none:=by
   intro b hb
   have hge:s.heap.objs.size≤b:=by
    simp only [fr,Bool.or_eq_true,Bool.and_eq_true,decide_eq_true_eq,List.any_eq_true] at hb
    rcases hb with rfl | ⟨c,hc,rfl,hlk⟩
    ·exact X.toInCall.fresh
    ·have:=X.above c.1 c.2 hc
     have:=X.toInCall.fresh
     exact Nat.le_of_lt (Nat.lt_of_le_of_lt ‹_› ‹ce.locals<c.2›)
   cases e:g.tag b with
   | none=>rfl
   | some t=>exact absurd (R.lt e) (Nat.not_lt.mpr hge)
  have hfr : ∀ b,fr b=true→(g.swap s.heap fr).tag b=some .frame:=fun b hb=>by simp [Gh.swap,fresh b hb,hb]
  have hcellfr : ∀ x c,ce.cells.lookup x=some c→fr c=true:=fun x c hc=>by
   simp only [fr,Bool.or_eq_true,Bool.and_eq_true,decide_eq_true_eq,List.any_eq_true]
   exact .inr ⟨(x,c),mem_of_lookup hc,rfl,hc⟩
  have FR:FrameAt (g.swap s.heap fr) s₁.heap ce ρ:={
   kind:=by rw [hsc]; exact hk
   glob:=by rw [← hce]; exact FA.glob
   bui:=by rw [← hce]; exact FA.bui
   nd:=P.nd
   lt:=hfr _ (by simp [fr])
   inj:=fun x y c h1 h2=>name_of_addr X.apart (mem_of_lookup h1) (mem_of_lookup h2)
   nel:=fun x c h1=>Nat.ne_of_gt (X.above x c (mem_of_lookup h1))
   var:=by
    refine ⟨_,X.toInCall.ns,fun x ov hx=>?_⟩
    rcases P.kind x ov hx with q | q
    ·refine .inl ⟨by rw [hko]; exact q,?_⟩
     rcases hvals x ov hx .none trivial with rfl | ⟨u,h1,h2⟩
     ·trivial
     ·rw [zo6 _ _ x u hndz h1 (by rw [hko]; exact q)]; exact h2
    ·have hs:((ce.cells).lookup x).isSome=true:=by rw [hcl]; exact zb0 _ _ _ _ q
     obtain ⟨c,hc⟩:=Option.isSome_iff_exists.mp hs
     refine .inr ⟨by rw [hko]; exact q,c,_,hc,hfr c (hcellfr x c hc),X.cell x c hc,?_⟩
     rcases hvals x ov hx .none trivial with rfl | ⟨u,h1,h2⟩
     ·trivial
     ·rw [zo7 _ _ x u hndz h1 (by rw [hko]; exact q)]; exact h2
   cap:=fun x v hx=>by rw [P.cap] at hx; cases hx }
  (refine obEE X.toInCall.same fun h1 tk zq2=>?_; subst zq2)
  have R1:=R.swapFrame (tk:=tk) fr X.toInCall.keep (fun b hb=>by
   simp only [fr,Bool.or_eq_true,Bool.and_eq_true,decide_eq_true_eq,List.any_eq_true] at hb
   rcases hb with rfl | ⟨c,hc,rfl,hlk⟩
   ·refine zd9 X.toInCall.ns fun o _ _ e _=>?_; exact ⟨o,e⟩
   ·refine obEA (X.cell c.1 c.2 hlk) fun o e _=>?_
    exact ⟨o,e⟩) FR
  have F1:Fit K n (A.deeper ce):=⟨by have:=F.depth; show A.depth+1+10*n≤900; lia,by have:=F.units; show A.units+3+200*n≤9000; lia,F.hand⟩
  refine hb ce fr h1 tk hce.symm F1 R1 X.toInCall.keep fun b hb=>?_
  simp only [fr,Bool.or_eq_true,Bool.and_eq_true,decide_eq_true_eq,List.any_eq_true] at hb
  rcases hb with rfl | ⟨c,hc,rfl,hlk⟩
  ·exact X.toInCall.fresh
  ·have:=X.above c.1 c.2 hc
   have:=X.toInCall.fresh
   exact Nat.le_of_lt (Nat.lt_of_le_of_lt ‹_› ‹ce.locals<c.2›)
structure ExN (K:Kc) (n:Nat) (env:Env) (ρ:Lo) (σ:List (Addr × O)) (ss:List Stmt) (o:O) (σ':List (Addr × O)):Prop where
 go : ∀ ⦃A:Around⦄ ⦃E:Value→Shared→Prop⦄ ⦃s:Shared⦄ ⦃Q:Flow→Shared→Prop⦄ ⦃g:Gh⦄,Fit K n A→Rep K g env ρ σ s →
  (∀ g' s' a,g.le g'→Rep K g' env ⟨[],[]⟩ ((a,o)::σ') s'→Q (.ret (.ref a)) s')→wpAny (KM K) A (execs ss env) Q E s
theorem ExN.assignN {x:Str} {e:Expr} {p pos} {o o2:O} {ss:List Stmt} (h1:EvN K n env ρ e σ o σ₁) (ρ₁:Addr→Lo) (hv : ∀ a,SetV ρ x (.ref a) (ρ₁ a)) (h2 : ∀ a,ExN K n env (ρ₁ a) ((a,o)::σ₁) ss o2 σ')
  (hs:swapsWith e (some (.Name x p)) pos.line env=pure false:=by rfl):ExN K n env ρ σ (.Assign [.Name x p] e pos::ss) o2 σ':=.mk fun _ _ _ _ _ F R h =>
 wpAny_execs_cons (wpAny_Assign_Name (h1.go F R fun g1 s1 a l1 R1=>zb4 R1 (hv a) rfl fun s2 R2=>(h2 a).go F R2 fun g3 s3 a3 l3 R3=>h g3 s3 a3 (l1.trans l3) R3) hs)
structure FnN (K:Kc) (n:Nat) (f:Value) (vs:List V) (σ:List (Addr × O)) (o:O) (σ':List (Addr × O)):Prop where
 go : ∀ ⦃A:Around⦄ ⦃E:Value→Shared→Prop⦄ ⦃s:Shared⦄ ⦃Q:Value→Shared→Prop⦄ ⦃g:Gh⦄ ⦃env:Env⦄ ⦃ρ:Lo⦄ ⦃us:List Value⦄,Fit K n A→Rep K g env ρ σ s→RVs g vs us →
  (∀ g' s' a,g.le g'→Rep K g' env ρ ((a,o)::σ') s'→Q (.ref a) s')→wpAny (KM K) A (call f us) Q E s
theorem FnN.of {a:Addr} {fd:FuncData} {ps:List Str} {body:List Stmt} {vs:List V} {o:O} (FA:FnAt K a fd) (hbody:fd.body = .stmts body)
  (hbind : ∀ us:List Value,us.length=vs.length→bindArgs fd ⟨us,[]⟩=pure (ps.zip us)) (P:Pars fd.scope ps vs ρ)
  (hb : ∀ k,ExN K n (callEnvC fd k a) ρ σ body o σ') 
  (hco:fd.scope.isCoroutine=false:=by rfl) (hgen:fd.scope.isGenerator=false:=by rfl) (hk:fd.scope.kind = .function:=by rfl):FnN K (n+1) (.ref a) vs σ o σ':=.mk fun A E s Q g env ρ₀ us F R hu h=>by
 refine wpAny_call (zB3 FA hbody hbind P F R hu (fun ce fr h1 tk hce F1 R1 hk1 _=>?_) hco hgen hk)
 subst hce
 refine (hb _).go F1 R1 fun g2 s2 x l2 R2=>?_
 (have zq:=R.backFrame l2 R2; have R3:=zq.1; have l3:=zq.2.1; have lB:=zq.2.2)
 exact h _ _ _ l3 R3
theorem zy6 {x:Str} {v:V} {u:Value} {Q:Unit→Shared→Prop} (R:Rep K g env ρ σ s) (hv:SetV ρ x v ρ') (hu:RV g v u) (hl:env.kindOf x=some .local)
  (h : ∀ h',Heap.SameBut env.locals s.heap h'→Rep K g env ρ' σ { s with heap:=h',toks:=s.toks+1 }→Q () { s with heap:=h',toks:=s.toks+1 }):wpAny (KM K) A (storeName env x u) Q E s:=by
 refine zd9 hv.l.split fun V1 o V2 e1 e2=>?_
 have F:=R.fr
 have hmem:(x,o)∈ρ.v:=by rw [e1]; simp
 refine obEA F.var fun m hn hvar=>?_
 have hnd:=F.nd
 have other : ∀ y ov,(y,ov)∈ρ'.v→(y=x∧ov=some v)∨(y≠x∧(y,ov)∈ρ.v):=by
  intro y ov hy
  rw [e2] at hy
  rw [e1,List.map_append,List.map_cons] at hnd
  have hnd':=List.nodup_append.mp hnd
  rcases List.mem_append.mp hy with h1 | h1
  ·right
   refine ⟨?_,by rw [e1]; exact List.mem_append_left _ h1⟩
   intro e
   have h2:y∈V1.map Prod.fst:=List.mem_map_of_mem (f:=Prod.fst) h1
   exact hnd'.2.2 _ h2 _ List.mem_cons_self e
  ·rcases List.mem_cons.mp h1 with h1 | h1
   ·cases h1; exact .inl ⟨rfl,rfl⟩
   ·right
    refine ⟨?_,by rw [e1]; exact List.mem_append_right _ (List.mem_cons_of_mem _ h1)⟩
    intro e
    have h2:y∈V2.map Prod.fst:=List.mem_map_of_mem (f:=Prod.fst) h1
    exact (List.nodup_cons.mp hnd'.2.1).1 (e ▸ h2)
 have ndn:(ρ'.v.map (·.1)).Nodup:=by
  have:ρ'.v.map (·.1)=ρ.v.map (·.1):=by rw [e1,e2]; simp
  rw [this]; exact hnd
 refine wpAny_storeName_local hl hn (fun h' hn' hs=>h _ hs ?_) (by rw [F.kind]; rfl)
 refine R.frameWrite F.lt hs (let ⟨o,_,_,e,_⟩:=hn'; ⟨o,e⟩) { F with nd:=ndn,var:=⟨_,hn',fun y ov hy=>?_⟩,cap:=?_ }
 ·rcases other y ov hy with ⟨rfl,rfl⟩ | ⟨hne,hy'⟩
  ·exact .inl ⟨hl,by simp only [if_true]; exact hu⟩
  ·rcases hvar y ov hy' with ⟨a1,a2⟩ | ⟨a1,c,w,a2,a3,a4,a5⟩
   ·exact .inl ⟨a1,by simp only [hne,if_false]; exact a2⟩
   ·exact .inr ⟨a1,c,w,a2,a3,a4.sameBut hs (F.nel y c a2),a5⟩
 ·intro y v' hy
  rw [hv.c] at hy
  refine zc5 (F.cap y v' hy) fun a1 c w a2 a3 a4 a5=>?_
  exact ⟨a1,c,w,a2,a3,a4.sameBut hs (F.nel y c a2),a5⟩
theorem Rep.gather (R:Rep K g env ⟨[],[]⟩ σ s) (hh:K.hd=none) (D:List Addr) (x:Addr) (hb : ∀ b∈D,g.tag b≠some .base) (hlv : ∀ b∈D,∃ o,s.heap.get? b=some o) (hσ : ∀ b∈D,b∉σ.map (·.1)) (hσ2 : ∀ b∈D,∀ a,g.tag b=some (.obj a)→a=b)
  (hl:env.locals∉D) : ∃ g':Gh,Rep K g' env ⟨[],[]⟩ σ s∧(∀ b∈D,g'.tag b=some (.obj x))∧(∀ b,b∉D→g'.tag b=g.tag b∧g'.con b=g.con b):=by
 classical
 let g':Gh:=⟨fun b=>if b∈D then some (.obj x) else g.tag b,g.con⟩
 have t1 : ∀ b∈D,g'.tag b=some (.obj x):=fun b hb=>if_pos hb
 have t2 : ∀ b,b∉D→g'.tag b=g.tag b∧g'.con b=g.con b:=fun b hb=>⟨if_neg hb,rfl⟩
 have lB:g.leB g':=fun b hb2=>by
  have:b∉D:=fun hm=>hb b hm hb2
  exact ⟨(t2 b this).1.trans hb2,rfl⟩
 refine ⟨g',⟨R.G,.inl hh,R.sh,fun b t hb2=>?_,fun b hb2=>?_,fun b o hb2=>?_,?_,fun b o hm=>?_,R.nd⟩,t1,t2⟩
 ·by_cases hq:b∈D
  ·exact hlv b hq
  ·rw [(t2 b hq).1] at hb2; exact R.live b t hb2
 ·by_cases hq:b∈D
  ·rw [t1 b hq] at hb2; simp at hb2
  ·rw [(t2 b hq).1] at hb2; exact R.fix b hb2
 ·(have zq:=R.gnd b o hb2; have q1:=zq.1; have q2:=zq.2)
  exact ⟨(lB b q1).1,q2⟩
 ·have Fr:=R.fr
  exact { Fr with
   lt:=(t2 _ hl).1.trans Fr.lt
   var:=let ⟨m,hns,_⟩:=Fr.var; ⟨m,hns,fun y ov hy=>(nomatch hy)⟩
   cap:=fun y v hy=>(nomatch hy) }
 ·refine (R.ob b o hm).move lB fun c hcb=>⟨?_,rfl⟩
  have:c∉D:=fun hd=>by
   have:=hσ2 c hd b hcb
   subst this
   exact hσ _ hd (List.mem_map_of_mem (f:=Prod.fst) hm)
  exact (t2 c this).1.trans hcb
end
end Mine
namespace Mine
open Builtin Builtin.ObjectAttr
theorem zA3 {t1 t2:Tok} {f p:Addr}:(fun y:Str=>if y=("pushback" : Str) then some (Value.ref p) else if y=("whitespace" : Str) then some (.str ⟨#[10,9,13,32]⟩ t2) else if y=("instream" : Str) then some (.ref f) else if y=("lineno" : Str) then some (.int 1 t1) else none)=zb5 1 t1 f t2 p:=by
 have n1:("pushback" : Str) ≠ "lineno" := by decide +kernel
 have n2:("pushback" : Str) ≠ "instream" := by decide +kernel
 have n3:("pushback" : Str) ≠ "whitespace" := by decide +kernel
 have n4:("whitespace" : Str) ≠ "lineno" := by decide +kernel
 have n5:("whitespace" : Str) ≠ "instream" := by decide +kernel
 have n6:("instream" : Str) ≠ "lineno" := by decide +kernel
 funext y
 unfold zb5
 by_cases h1:y = "pushback"
 ·subst h1; rw [if_pos rfl,if_neg n1,if_neg n2,if_neg n3,if_pos rfl]
 ·rw [if_neg h1]
  by_cases h2:y = "whitespace"
  ·subst h2; rw [if_pos rfl,if_neg n4,if_neg n5,if_pos rfl]
  ·rw [if_neg h2]
   by_cases h3:y = "instream"
   ·subst h3; rw [if_pos rfl,if_neg n6,if_pos rfl]
   ·rw [if_neg h3]
    by_cases h4:y = "lineno"
    ·subst h4; rw [if_pos rfl,if_pos rfl]
    ·rw [if_neg h4,if_neg h4,if_neg h3,if_neg h2,if_neg h1]
section
variable {K:Kc} {n m:Nat} {env cenv ce:Env} {ρ ρ' ρ₁ ρ₂ ρ₃ ρ₀ ρc:Lo} {σ σ' σ₀ σ₁ σ₂ σ₃:List (Addr × O)} {g g₀ g₁ g₂ g₄:Gh} {s s₀ s' s₄:Shared} {A:Around} {items:List W} {mN:Str→Option Value} {E:Value→Shared→Prop}
structure InstAtX (K:Kc) (h:Heap) (x dx:Addr) (mA:Str→Option Value):Prop where
 I:h.InstFk x K.lexC mA
 D : ∀ o,h.get? x=some o→o.dict=some dx
theorem InstAtX.keeps {h h':Heap} {x dx:Addr} {mA:Str→Option Value} (X:InstAtX K h x dx mA) (k : ∀ b o,h.get? b=some o→h'.get? b=some o):InstAtX K h' x dx mA:=by
 refine zf9 X.I fun o h1 h2 h3 h4=>?_
 have hd:=X.D o h1
 refine ⟨⟨o,k _ _ h1,h2,h3,?_⟩,fun o' ho'=>by rw [k _ _ h1] at ho'; cases ho'; exact hd⟩
 rcases h4 with ⟨q,_⟩ | ⟨d,q1,q2,q3,od,r1,r2⟩
 ·rw [hd] at q; cases q
 ·exact .inr ⟨d,q1,q2,q3.at fun o=>k d o,od,k _ _ r1,r2⟩
theorem zo3 (LK:LexK K mN) (R:Rep K g env ρ σ s) {x dx:Addr} {mA:Str→Option Value} {name:Str} {v:Value} {ns:List Str} {Q:Unit→Shared→Prop} (hx:g.tag x=none) (hdx:g.tag dx=none) (X:InstAtX K s.heap x dx mA)
  (hna:mN name=none) (hB:typeLookup (.type "object") name=pure none) (hw:Within mA ns) (hz:ns.length≤sizeLine)
  (h : ∀ h' tk,InstAtX K h' x dx (fun y=>if y=name then some v else mA y)→(∀ b o,b≠x→b≠dx→s.heap.get? b=some o→h'.get? b=some o)→Rep K g env ρ σ { s with heap:=h',toks:=tk }→Q () { s with heap:=h',toks:=tk }) :
  wpAny (KM K) A (setAttr (.ref x) name v) Q E s:=by
 refine zb3 LK.cls fun nm q N bs sn sub col dd k0 k1 k2 k3 k5 hC hN=>?_
 have hC':=R.keeps _ _ hC
 have hN':=hN.keeps R.keeps
 have hxC:x≠K.lexC:=by
  intro e
  have:=(R.gnd _ _ hC).1
  rw [← e,hx] at this; cases this
 refine obEA (id X.I) fun ox hox _=>?_
 have hd:=X.D ox hox
 have Rk:=fun (h':Heap) (tk:Nat)=>R.heap (h':=h') (tk:=tk)
 obtain ⟨hh,gg,d,t,os⟩:=s
 refine store_attrFk PySem.F.store_object hC' hN' LK.sa hna hB hxC X.I (fun h' tk' I' hk hsame=>?_) hw hz
 refine zk0 (hsame ox hox) fun o₁ e1 e2 e3 e4 e5=>?_
 have hk' : ∀ b o,b≠x→b≠dx→hh.get? b=some o→h'.get? b=some o:=fun b o b1 b2 e=>hk b o b1 (fun o₀ d' q1 q2=>by rw [hox] at q1; cases q1; rw [hd] at q2; cases q2; exact b2) e
 refine h h' tk' ⟨I',fun o ho=>by rw [e1] at ho; cases ho; exact e5 dx hd⟩ hk' (Rk h' tk' fun b t o e ho=>hk' b o (fun e'=>by subst e'; rw [hx] at e; cases e) (fun e'=>by subst e'; rw [hdx] at e; cases e) ho)
theorem zO4 {o:Expr} {attr:Str} {p pos:Pos} {e:Expr} {Q:Flow→Shared→Prop} (hs:swapsWith e (some (.Attribute o attr p)) pos.line env=pure false)
  (h:wpAny (KM K) A (eval e env) (fun v s₁=>wpAny (KM K) A (eval o env) (fun ov s₂=>wpAny (KM K) A (setAttr ov attr v) (fun _=>Q .next) E s₂) E s₁) E s) :
  wpAny (KM K) A (exec (.Assign [.Attribute o attr p] e pos) env) Q E s:=plainObj_wpAny_Assign_Attribute h hs
theorem yf2 (LK:LexK K mN) {x dx f:Addr} {a1 a2 a3 a4 b1 b2 b3 b4 c1 c2 c3 c4 d1 d2 d3 d4:Pos} {k1 k2} {Q:Flow→Shared→Prop}
  (R:Rep K g env ⟨[("self",some (.ref x)),("fp",some (.ref f))],[]⟩ σ s) (hx:g.tag x=none) (hdx:g.tag dx=none) (X:InstAtX K s.heap x dx (fun _=>none))
  (h : ∀ h' tk t1 t2 p,InstAtX K h' x dx (zb5 1 t1 f t2 p)→(∀ b o,b≠x→b≠dx→s.heap.get? b=some o→h'.get? b=some o)→s.heap.get? p=none→p≠x→p≠dx→h'.get? p=some { cls:=.type "list",data:=.seq #[] } →
   Rep K g env ⟨[("self",some (.ref x)),("fp",some (.ref f))],[]⟩ σ { s with heap:=h',toks:=tk }→Q .next { s with heap:=h',toks:=tk }) :
  wpAny (KM K) A (execs [.Assign [.Attribute (.Name ("self" : Str) a1) ("lineno" : Str) a2] (.Constant (.int 1) k1 a3) a4,.Assign [.Attribute (.Name ("self" : Str) b1) ("instream" : Str) b2] (.Name ("fp" : Str) b3) b4,
   .Assign [.Attribute (.Name ("self" : Str) c1) ("whitespace" : Str) c2] (.Constant (.str ⟨#[10,9,13,32]⟩) k2 c3) c4,.Assign [.Attribute (.Name ("self" : Str) d1) ("pushback" : Str) d2] (.List [] d3) d4] env) Q E s:=by
 have self : ∀ {s:Shared} {pos:Pos} {Q:Value→Shared→Prop},Rep K g env ⟨[("self",some (.ref x)),("fp",some (.ref f))],[]⟩ σ s→Q (.ref x) s→wpAny (KM K) A (eval (.Name ("self" : Str) pos) env) Q E s:=fun R h=>zm3 R (v:=.ref x) (mm 0 rfl) fun u hu=>by obtain rfl:=RV.refE hu; exact h
 have fpn : ∀ {s:Shared} {pos:Pos} {Q:Value→Shared→Prop},Rep K g env ⟨[("self",some (.ref x)),("fp",some (.ref f))],[]⟩ σ s→Q (.ref f) s→wpAny (KM K) A (eval (.Name ("fp" : Str) pos) env) Q E s:=fun R h=>zm3 R (v:=.ref f) (mm 1 rfl) fun u hu=>by obtain rfl:=RV.refE hu; exact h
 refine wpAny_execs_cons (zO4 rfl (wpAny_Constant_int ?_))
 refine self (R.toks _) ?_
 refine zo3 LK (R.toks _) hx hdx X LK.line zo1 Within.nil (by simp) fun h1 tk1 X1 k1 R1=>?_
 refine wpAny_execs_cons (zO4 rfl (fpn R1 ?_))
 refine self R1 ?_
 refine zo3 LK R1 hx hdx X1 LK.ins zP7 (Within.cons _ _ Within.nil) (by rw [sizeLine_eq]; simp) fun h2 tk2 X2 k2 R2=>?_
 refine wpAny_execs_cons (zO4 rfl (wpAny_Constant_str ?_))
 refine self (R2.toks _) ?_
 refine zo3 LK (R2.toks _) hx hdx X2 LK.ws yb5 (Within.cons _ _ (Within.cons _ _ Within.nil)) (by rw [sizeLine_eq]; simp) fun h3 tk3 X3 k3 R3=>?_
 refine wpAny_execs_cons (zO4 rfl (List_ (spliced_none (wpAny_newList ?_ (by simp)))))
 have R3':=R3.push { cls:=.type "list",data:=.seq ([]:List Value).toArray }
 have kp : ∀ b o,h3.get? b=some o→(h3.push { cls:=.type "list",data:=.seq ([]:List Value).toArray }).get? b=some o:=fun b o e=>Heap.get?_push_of_some _ e
 refine self R3' ?_
 refine obEA (id X3.I) fun ox hox _=>?_
 have hpx:h3.objs.size≠x:=Nat.ne_of_gt (Heap.lt_size hox)
 have hpd:h3.objs.size≠dx:=by
  refine zf9 X3.I fun o' q1 _ _ q4=>?_
  rcases q4 with ⟨q,_⟩ | ⟨d,r1,_,_,od,r2,_⟩
  ·rw [X3.D _ q1] at q; cases q
  ·rw [X3.D _ q1] at r1; cases r1
   exact Nat.ne_of_gt (Heap.lt_size r2)
 refine zo3 LK R3' hx hdx (X3.keeps kp) LK.pb zH2 (Within.cons _ _ (Within.cons _ _ (Within.cons _ _ Within.nil))) (by rw [sizeLine_eq]; simp) fun h4 tk4 X4 k4 R4=>?_
 refine wpAny_execs_nil (h h4 tk4 _ _ h3.objs.size (zA3 ▸ X4) (fun b o e1 e2 e=>k4 b o e1 e2 (kp b o (k3 b o e1 e2 (k2 b o e1 e2 (k1 b o e1 e2 e))))) ?_ hpx hpd (k4 _ _ hpx hpd (Heap.get?_push_size _ rfl)) R4)
 cases e:s.heap.get? h3.objs.size with
 | none=>rfl
 | some o=>exact absurd (Heap.lt_size (k3 _ _ hpx hpd (k2 _ _ hpx hpd (k1 _ _ hpx hpd e)))) (Nat.lt_irrefl _)
end
end Mine
namespace Mine
open Builtin Builtin.ObjectAttr
theorem def0 {M:Model} {A:Around} {E:Value→Shared→Prop} {s:Shared} {env:Env} {name:Str} {params:Arguments} {body:List Stmt} {scope:Scope} {pos:Pos} {Q:Flow→Shared→Prop} (hdef:defaultsOf params env=([],[])) (hann:annTrees params none env=[])
  (h:wpAny M A (makeFunction name (qualnameIn env name name) params (.stmts body) scope env [] [] [] pos pos.line) (fun v s'=>wpAny M A (storeName env name v) (fun _ s''=>Q .next s'') E s') E s):wpAny M A (exec (.FunctionDef name params body [] none [] scope none name pos) env) Q E s:=by
 rw [exec_def]
 refine wpAny_bind (wpAny_standAt (wpAny_bind (wpAny_holding ?_)))
 rw [hdef,hann]
 refine wpAny_bind (wpAny_pure ?_)
 refine wpAny_bind (wpAny_holding (wpAny_pure ?_))
 refine wpAny_holding (wpAny_bind (wpAny_pure ?_))
 exact wpAny_mono h (fun v s' h'=>wpAny_bind (wpAny_standAt (wpAny_bind (wpAny_bindName (wpAny_mono h' (fun _ _ h''=>wpAny_pure h'') fun _ _ x=>x))))) fun _ _ x=>x
noncomputable abbrev zA2 (full:List Nat) (pl:Addr) (a b:Option V):Lo:=⟨[(("text" : Str),some (.w (.str full))),("read",a),("stream",b),("place",some (.ref pl))],[]⟩
structure LexMk (K:Kc) (mN:Str→Option Value) (env:Env) (P:Addr) (cs:List (Pos × Str)) (qr ql:Str) (rp:Arguments) (rb:List Stmt) (rs:Scope) (pr:Pos) (lp:Arguments) (ls:Scope) (q2:Pos):Prop where
 LK:LexK K mN
 code : ∃ c,env.code = .ref c∧CodeHd K.s₀.heap c P
 bi:K.s₀.heap.BuiltinsAt K.mg P
 hd:K.hd=none
 c1:(pr,qr)∈cs
 c2:(q2,ql)∈cs
 d1 : ∀ p∈cs,((pr.line:Int)==(p.1.line:Int)&&(pr.col:Int)==(p.1.col:Int))=true→p.2=qr
 d2 : ∀ p∈cs,((q2.line:Int)==(p.1.line:Int)&&(q2.col:Int)==(p.1.col:Int))=true→p.2=ql
 n1:qualnameIn env "read" "read" = qr
 n2:env.qual ++ "<lambda>" = ql
 kr:env.kindOf ("read" : Str)=some .local
 ks:env.kindOf ("stream" : Str)=some .local
 kp:env.kindOf ("place" : Str)=some .cell
 kt:env.kindOf ("text" : Str)=some .cell
 kc:env.kindOf ("_netrclex" : Str)=some .globalImplicit
 cl : ∀ c1 c2,env.cells.lookup ("place" : Str)=some c1→env.cells.lookup ("text" : Str)=some c2→closureFor rs env=pure [(("text" : Str),c2),("place",c1)]
 cl2:closureFor ls env=pure []
 df:defaultsOf rp env=([],[])
 an:annTrees rp none env=[]
 df2:defaultsOf lp env=([],[])
 mg:K.mg ("_netrclex" : Str)=some (.ref K.lexC)
 eb:zb6 K.rdSt=rb
 es:za4 K.rdSt=rs
 bind : ∀ (doc pm cdv ctv:Value) (cl:List (Str × Addr)) (u:Value),bindArgs (kdv_fn "read" qr rp (.stmts rb) rs cl .none doc pm cdv ctv) ⟨[u],[]⟩=pure [(("count" : Str),u)]
section
variable {K:Kc} {n m:Nat} {env cenv ce:Env} {ρ ρ' ρ₁ ρ₂ ρ₃ ρ₀ ρc:Lo} {σ σ' σ₀ σ₁ σ₂ σ₃:List (Addr × O)} {g g₀ g₁ g₂ g₄:Gh} {s s₀ s' s₄:Shared} {A:Around} {items:List W} {mN:Str→Option Value} {E:Value→Shared→Prop}
theorem Gh.back_swap (g:Gh) (h:Heap) (fr:Addr→Bool) : ∀ b,(g.back (g.swap h fr)).tag b=g.tag b:=by
 intro b
 cases e:g.tag b with
 | none =>
  simp only [Gh.back,Gh.swap,e]
  by_cases hf:fr b=true
  ·simp [hf]
  ·simp [hf]
 | some t=>cases t <;> simp [Gh.back,Gh.swap,e]
theorem Rep.cellAt (R:Rep K g env ρ σ s) {x:Str} {v:V} (hx:(x,some v)∈ρ.v) (hk:env.kindOf x=some .cell) : ∃ c u,env.cells.lookup x=some c∧g.tag c=some .frame∧s.heap.IsCell c (some u)∧RV g v u:=by
 refine obEA R.fr.var fun m hn hv=>?_
 rcases hv x (some v) hx with ⟨h1,_⟩ | ⟨h1,c,u,h2,h3,h4,h5⟩
 ·rw [hk] at h1; cases h1
 ·cases u with
  | none=>exact h5.elim
  | some u=>exact ⟨c,u,h2,h3,h4,h5⟩
theorem Rep.tagNone (R:Rep K g env ρ σ s) {a:Addr} (h:s.heap.get? a=none):g.tag a=none:=by
 cases e:g.tag a with
 | none=>rfl
 | some t=>obtain ⟨o,ho⟩:=R.live a t e; rw [h] at ho; cases ho
theorem zL0 (LK:LexK K mN) (hh:K.hd=none) {x dx p f fd r c1 c2 pl cc:Addr} {full:List Nat} {t1 t2 tp tt:Tok} {of or':Obj} {fdr:FuncData} {Q:Gh→Prop}
  (R:Rep K g env ⟨[],[]⟩ ((pl,.list [.int 0])::σ) s) (X:InstAtX K s.heap x dx (zb5 1 t1 f t2 p)) (hp:s.heap.get? p=some { cls:=.type "list",data:=.seq #[] })
  (gx:g.tag x=none) (gd:g.tag dx=none) (gp:g.tag p=none) (gf:g.tag f=some .tmp) (gfd:g.tag fd=some .tmp) (gr:g.tag r=some .tmp) (gc1:g.tag c1=some .frame) (gc2:g.tag c2=some .frame)
  (npx:p≠x) (npd:p≠dx) (nff:f≠fd) (nfr:f≠r) (nfdr:fd≠r) (nc:c1≠c2) (nl1:c1≠env.locals) (nl2:c2≠env.locals)
  (hf:s.heap.get? f=some of) (hfc:of.cls = .type "function") (hfd:of.dict=some fd) (hfn : ∀ c,of.data ≠ .cls c) (hns:s.heap.Ns fd (fun x=>if x=("read" : Str) then some (.ref r) else none))
  (hr:s.heap.get? r=some or') (hrc:or'.cls = .type "function") (hrd:or'.data = .func fdr) (RO:RdOk K fdr c1 c2) (hcode:fdr.code = .ref cc) (hCI:CodeIn g cc fdr.qualname)
  (k1:s.heap.IsCell c1 (some (.ref pl))) (k2:s.heap.IsCell c2 (some (.str ⟨full.toArray⟩ tt))) (hz:full.length≤sizeLine) :
  ∃ g':Gh,Rep K g' env ⟨[],[]⟩ ((x,.lex full 0 1 [])::σ) s∧(∀ b,g.tag b=some .base→g'.tag b=some .base∧g'.con b=g.con b)∧(∀ b,g.tag b=some .tmp→b≠f→b≠fd→b≠r→g'.tag b=some .tmp∧g'.con b=g.con b):=by
 (refine zf2 (R.ob pl _ (List.mem_cons_self)) fun gpl _ opl vpl hpl zq5 hw=>?_; obtain ⟨npl,rfl⟩:=zq5)
 simp only [RWs,RW] at hw
 (refine zb2 hw fun v0 r0 e0 zq3 zq4=>?_; obtain ⟨tk0,rfl⟩:=zq3; subst zq4)
 have evpl:vpl = #[.int 0 tk0]:=by
  rcases vpl with ⟨l⟩
  simp only at e0
  rw [e0]
 subst evpl
 have hnd:=R.nd
 simp only [List.map_cons,List.nodup_cons] at hnd
 have R0:=R.less (ρ':=⟨[],[]⟩) (σ':=σ) (Less.refl _) (List.sublist_cons_self _ _)
 have nx : ∀ {b t},g.tag b=none→g.tag t≠none→b≠t:=fun h1 h2 e=>h2 (e ▸ h1)
 have ntag : ∀ {b c:Addr} {t u:Tag},g.tag b=some t→g.tag c=some u→t≠u→b≠c:=fun h1 h2 h3 e=>by subst e; rw [h1] at h2; cases h2; exact h3 rfl
 have ndx:dx≠x:=by
  refine zf9 X.I fun o' q1 _ _ q4=>?_
  rcases q4 with ⟨q,_⟩ | ⟨d,r1,r2,_⟩
  ·rw [X.D _ q1] at q; cases q
  ·rw [X.D _ q1] at r1; cases r1; exact r2
 have ldx : ∃ o,s.heap.get? dx=some o:=by
  refine zf9 X.I fun o' q1 _ _ q4=>?_
  rcases q4 with ⟨q,_⟩ | ⟨d,r1,_,_,od,r2,_⟩
  ·rw [X.D _ q1] at q; cases q
  ·rw [X.D _ q1] at r1; cases r1; exact ⟨_,r2⟩
 have lx : ∃ o,s.heap.get? x=some o∧o.dict=some dx:=let ⟨o',q1,_⟩:=X.I; ⟨o',q1,X.D _ q1⟩
 have mem9 : ∀ b,b∈[x,dx,p,f,fd,r,c1,c2,pl]→(g.tag b=none∨g.tag b=some .tmp∨g.tag b=some .frame∨b=pl):=by
  intro b hb
  simp only [List.mem_cons,List.not_mem_nil,or_false] at hb
  rcases hb with rfl | rfl | rfl | rfl | rfl | rfl | rfl | rfl | rfl
  ·exact .inl gx
  ·exact .inl gd
  ·exact .inl gp
  ·exact .inr (.inl gf)
  ·exact .inr (.inl gfd)
  ·exact .inr (.inl gr)
  ·exact .inr (.inr (.inl gc1))
  ·exact .inr (.inr (.inl gc2))
  ·exact .inr (.inr (.inr rfl))
 have notσ : ∀ b,g.tag b≠some (.obj b)→b∉σ.map (·.1):=fun b h=>R0.notIn h
 obtain ⟨g',R',T1,T2⟩:=R0.gather hh [x,dx,p,f,fd,r,c1,c2,pl] x (fun b hb e=>by
   rcases mem9 b hb with h | h | h | rfl
   ·rw [h] at e; cases e
   ·rw [h] at e; cases e
   ·rw [h] at e; cases e
   ·rw [gpl] at e; cases e) (fun b hb=>by
   simp only [List.mem_cons,List.not_mem_nil,or_false] at hb
   rcases hb with rfl | rfl | rfl | rfl | rfl | rfl | rfl | rfl | rfl
   ·exact ⟨_,lx.choose_spec.1⟩
   ·exact ldx
   ·exact ⟨_,hp⟩
   ·exact ⟨_,hf⟩
   ·refine zd9 hns fun o _ _ e _=>?_; exact ⟨o,e⟩
   ·exact ⟨_,hr⟩
   ·refine obEA k1 fun o e _=>?_; exact ⟨o,e⟩
   ·refine obEA k2 fun o e _=>?_; exact ⟨o,e⟩
   ·exact ⟨_,hpl⟩) (fun b hb=>by
   rcases mem9 b hb with h | h | h | rfl
   ·exact notσ b (by rw [h]; simp)
   ·exact notσ b (by rw [h]; simp)
   ·exact notσ b (by rw [h]; simp)
   ·exact hnd.1) (fun b hb a e=>by
   rcases mem9 b hb with h | h | h | rfl
   ·rw [h] at e; cases e
   ·rw [h] at e; cases e
   ·rw [h] at e; cases e
   ·rw [gpl] at e; cases e; rfl) (fun hm=>by
   have hl:=R.fr.lt
   simp only [List.mem_cons,List.not_mem_nil,or_false] at hm
   rcases hm with e | e | e | e | e | e | e | e | e
   ·rw [e,gx] at hl; cases hl
   ·rw [e,gd] at hl; cases hl
   ·rw [e,gp] at hl; cases hl
   ·rw [e,gf] at hl; cases hl
   ·rw [e,gfd] at hl; cases hl
   ·rw [e,gr] at hl; cases hl
   ·exact nl1 e.symm
   ·exact nl2 e.symm
   ·rw [e,gpl] at hl; cases hl)
 have base : ∀ b,g.tag b=some .base→g'.tag b=some .base∧g'.con b=g.con b:=fun b hb=>by
  have hn:b∉[x,dx,p,f,fd,r,c1,c2,pl]:=fun hm=>by
   rcases mem9 b hm with h | h | h | rfl
   ·rw [h] at hb; cases hb
   ·rw [h] at hb; cases hb
   ·rw [h] at hb; cases hb
   ·rw [gpl] at hb; cases hb
  (have zq:=T2 b hn; have q1:=zq.1; have q2:=zq.2)
  exact ⟨q1.trans hb,q2⟩
 refine ⟨g',R'.addO (o:=.lex full 0 1 []) ⟨⟨dx,p,f,fd,r,c1,c2,pl⟩,?_⟩ (notσ x (by rw [gx]; simp)),base,fun b hb n1 n2 n3=>?_⟩
 ·exact {
   tags:=fun b hb=>T1 b hb
   nd:=by
    have a1:=nx gx (t:=f) (by rw [gf]; simp)
    have a2:=nx gx (t:=fd) (by rw [gfd]; simp)
    have a3:=nx gx (t:=r) (by rw [gr]; simp)
    have a4:=nx gx (t:=c1) (by rw [gc1]; simp)
    have a5:=nx gx (t:=c2) (by rw [gc2]; simp)
    have a6:=nx gx (t:=pl) (by rw [gpl]; simp)
    have b1:=nx gd (t:=f) (by rw [gf]; simp)
    have b2:=nx gd (t:=fd) (by rw [gfd]; simp)
    have b3:=nx gd (t:=r) (by rw [gr]; simp)
    have b4:=nx gd (t:=c1) (by rw [gc1]; simp)
    have b5:=nx gd (t:=c2) (by rw [gc2]; simp)
    have b6:=nx gd (t:=pl) (by rw [gpl]; simp)
    have d1:=nx gp (t:=f) (by rw [gf]; simp)
    have d2:=nx gp (t:=fd) (by rw [gfd]; simp)
    have d3:=nx gp (t:=r) (by rw [gr]; simp)
    have d4:=nx gp (t:=c1) (by rw [gc1]; simp)
    have d5:=nx gp (t:=c2) (by rw [gc2]; simp)
    have d6:=nx gp (t:=pl) (by rw [gpl]; simp)
    have e1:=ntag gf gc1 (by simp)
    have e2:=ntag gf gc2 (by simp)
    have e3:=ntag gf gpl (by simp)
    have f1:=ntag gfd gc1 (by simp)
    have f2:=ntag gfd gc2 (by simp)
    have f3:=ntag gfd gpl (by simp)
    have h1:=ntag gr gc1 (by simp)
    have h2:=ntag gr gc2 (by simp)
    have h3:=ntag gr gpl (by simp)
    have i1:=ntag gc1 gpl (by simp)
    have i2:=ntag gc2 gpl (by simp)
    exact .cons (fac ndx.symm (fac npx.symm (fac a1 (fac a2 (fac a3 (fac a4 (fac a5 (fac a6 fan)))))))) (.cons (fac npd.symm (fac b1 (fac b2 (fac b3 (fac b4 (fac b5 (fac b6 fan))))))) (.cons (fac d1 (fac d2 (fac d3 (fac d4 (fac d5 (fac d6 fan)))))) (.cons (fac nff (fac nfr (fac e1 (fac e2 (fac e3 fan))))) (.cons (fac nfdr (fac f1 (fac f2 (fac f3 fan)))) (.cons (fac h1 (fac h2 (fac h3 fan))) (.cons (fac nc (fac i1 fan)) (.cons (fac i2 fan) (.cons fan .nil))))))))
   inst:=⟨t1,t2,X.I⟩
   dd:=let ⟨o,q1,q2⟩:=lx; ⟨o,q1,q2⟩
   pbz:=by simp
   pb:=⟨_, #[],hp,⟨_,rfl⟩,RWs.nil⟩
   fn:=⟨of,hf,hfc,hfd,hfn⟩
   fdict:=hns
   rd:=⟨or',fdr,cc,hr,hrc,hrd,RO,hcode,hCI.mono base⟩
   cell1:=k1
   fz:=hz
   cell2:=⟨tt,k2⟩
   place:=⟨_,tk0,hpl,⟨_,rfl⟩⟩ }
 ·have hn:b∉[x,dx,p,f,fd,r,c1,c2,pl]:=fun hm=>by
   simp only [List.mem_cons,List.not_mem_nil,or_false] at hm
   rcases hm with rfl | rfl | rfl | rfl | rfl | rfl | rfl | rfl | rfl
   ·rw [gx] at hb; cases hb
   ·rw [gd] at hb; cases hb
   ·rw [gp] at hb; cases hb
   ·exact n1 rfl
   ·exact n2 rfl
   ·exact n3 rfl
   ·rw [gc1] at hb; cases hb
   ·rw [gc2] at hb; cases hb
   ·rw [gpl] at hb; cases hb
  (have zq:=T2 b hn; have q1:=zq.1; have q2:=zq.2)
  exact ⟨q1.trans hb,q2⟩
end
end Mine
namespace Mine
open Builtin Builtin.ObjectAttr
noncomputable abbrev zo4 (a1 a2 a3 a4 b1 b2 b3 b4 c1 c2 c3 c4 d1 d2 d3 d4:Pos) (k1 k2:Nat):List Stmt :=
 [.Assign [.Attribute (.Name ("self" : Str) a1) ("lineno" : Str) a2] (.Constant (.int 1) k1 a3) a4,.Assign [.Attribute (.Name ("self" : Str) b1) ("instream" : Str) b2] (.Name ("fp" : Str) b3) b4,
   .Assign [.Attribute (.Name ("self" : Str) c1) ("whitespace" : Str) c2] (.Constant (.str ⟨#[10,9,13,32]⟩) k2 c3) c4,.Assign [.Attribute (.Name ("self" : Str) d1) ("pushback" : Str) d2] (.List [] d3) d4]
section
variable {K:Kc} {n m:Nat} {env cenv ce:Env} {ρ ρ' ρ₁ ρ₂ ρ₃ ρ₀ ρc:Lo} {σ σ' σ₀ σ₁ σ₂ σ₃:List (Addr × O)} {g g₀ g₁ g₂ g₄:Gh} {s s₀ s' s₄:Shared} {A:Around} {items:List W} {mN:Str→Option Value} {E:Value→Shared→Prop}
theorem ya6 (LK:LexK K mN) (hh:K.hd=none) {initSt:Stmt} {fI:Addr} {fdI:FuncData} (MI:MethAt K mN "__init__" initSt fI fdI) {a1 a2 a3 a4 b1 b2 b3 b4 c1 c2 c3 c4 d1 d2 d3 d4:Pos} {k1 k2:Nat} (hbI:zb6 initSt=zo4 a1 a2 a3 a4 b1 b2 b3 b4 c1 c2 c3 c4 d1 d2 d3 d4 k1 k2)
  (PI : ∀ x f:Addr,Pars (za4 initSt) (zh6 initSt) [.ref x,.ref f] ⟨[("self",some (.ref x)),("fp",some (.ref f))],[]⟩)
  (hco:(za4 initSt).isCoroutine=false) (hgen:(za4 initSt).isGenerator=false) (hk:(za4 initSt).kind = .function)
  (F:Fit K (n+2) A) {f:Addr} (R:Rep K g env ρ σ s) {Q:Value→Shared→Prop}
  (h : ∀ h' tk t1 t2 x dx p,Rep K g env ρ σ { s with heap:=h',toks:=tk }→InstAtX K h' x dx (zb5 1 t1 f t2 p)→h'.get? p=some { cls:=.type "list",data:=.seq #[] }→s.heap.get? x=none→s.heap.get? dx=none→s.heap.get? p=none→p≠x→p≠dx →
   Q (.ref x) { s with heap:=h',toks:=tk }):wpAny (KM K) A (call (.ref K.lexC) [.ref f]) Q E s:=by
 refine zb3 LK.cls fun nm q N bs sn sub col dd k0 k1' k2' k3 k5 hC hN=>?_
 have hC':=R.keeps _ _ hC
 have hN':=hN.keeps R.keeps
 refine obEA MI.cls fun oI hoI hcI=>?_
 have hoI':=R.keeps _ _ hoI
 have Rk:=fun (h':Heap) (tk:Nat)=>R.heap (h':=h') (tk:=tk)
 have Rn:=fun (a:Addr)=>R.tagNone (a:=a)
 obtain ⟨hh',gg,d,tt,os⟩:=s
 refine wpAny_call_obj_initFk PySem.F.objNew hC' hN' MI.nm hoI' hcI fun h7 x dx MO=>?_
 have R7:=Rk h7 tt fun b t o _ e=>MO.keeps b o e
 have X7:InstAtX K h7 x dx (fun _=>none):=⟨MO.inst,MO.dict⟩
 have F7:Fit K (n+1) (A.under (.builtin "type.__call__" ⟨.ref K.lexC::[.ref f],[]⟩)):=⟨by have:=F.depth; show A.depth+1+10*(n+1)≤900; lia,by have:=F.units; show A.units+1+200*(n+1)≤9000; lia,F.hand⟩
 refine wpAny_call (zB3 (ps:=zh6 initSt) (body:=zb6 initSt) (vs:=[.ref x,.ref f]) (ρ:=⟨[("self",some (.ref x)),("fp",some (.ref f))],[]⟩) MI.fn MI.body (fun us hu=>MI.bind us (by rw [hu,(PI x f).len])) (MI.scope ▸ PI x f) F7 R7 ⟨_,_,rfl,rfl,_,_,rfl,rfl,rfl⟩ (fun ce fr h8 tk8 hce F8 R8 k8 hfr=>?_) (by rw [MI.scope]; exact hco) (by rw [MI.scope]; exact hgen) (by rw [MI.scope]; exact hk))
 rw [hbI]
 have lt7 : ∀ b o,h7.get? b=some o→fr b=false:=fun b o e=>by
  cases e2:fr b with
  | false=>rfl
  | true=>exact absurd (hfr b e2) (Nat.not_le.mpr (Heap.lt_size e))
 refine obEA (id X7.I) fun ox hox _=>?_
 have ldx : ∃ o,h7.get? dx=some o:=by
  refine zf9 X7.I fun o' q1 _ _ q4=>?_
  rcases q4 with ⟨q,_⟩ | ⟨d',r1,_,_,od,r2,_⟩
  ·rw [X7.D _ q1] at q; cases q
  ·rw [X7.D _ q1] at r1; cases r1; exact ⟨_,r2⟩
 obtain ⟨odx,hodx⟩:=ldx
 have gx8:(g.swap h7 fr).tag x=none:=by simp [Gh.swap,Rn x MO.newX,lt7 x _ hox]
 have gd8:(g.swap h7 fr).tag dx=none:=by simp [Gh.swap,Rn dx MO.newD,lt7 dx _ hodx]
 refine yf2 LK R8 gx8 gd8 (X7.keeps k8) fun h9 tk9 t1 t2 p X9 k9 p0 px pd hp R9=>?_
 refine ⟨rfl,?_⟩
 (have zq:=R7.backFrame (.refl _) R9; have R10:=zq.1; have l10:=zq.2.1; have lB:=zq.2.2)
 have eB:=Gh.back_swap g h7 fr
 have hp0:hh'.get? p=none:=by
  cases e:hh'.get? p with
  | none=>rfl
  | some o=>rw [k8 _ _ (MO.keeps _ _ e)] at p0; cases p0
 have R11:Rep K g env ρ σ ⟨h9,gg,d,tk9,os⟩:=by
  have con : ∀ b,(g.tag b=some .base∨g.tag b=some .tmp)→g.con b=((g.back (g.swap h7 fr)).con b):=fun b hb=>by
   rcases hb with e | e <;> simp [Gh.back,Gh.swap,e]
  have lBB:(g.back (g.swap h7 fr)).leB g:=fun b hb=>⟨(eB b).symm.trans hb,con b (.inl (by rw [← eB b]; exact hb))⟩
  exact {
   G:=R10.G
   hd:=.inl hh
   sh:=R10.sh
   live:=fun b t hb=>R10.live b t ((eB b).trans hb)
   fix:=fun b hb=>by
    rw [← eB b] at hb
    rw [R10.fix b hb,con b (by rw [← eB b]; exact hb)]
   gnd:=fun b o ho=>by
    (have zq:=R10.gnd b o ho; have q1:=zq.1; have q2:=zq.2)
    exact ⟨(eB b).symm.trans q1,(con b (.inl (by rw [← eB b]; exact q1))).trans q2⟩
   fr:=R10.fr.move lBB (fun b hb=>⟨(eB b).symm.trans hb,rfl⟩) (fun b hb=>⟨(eB b).symm.trans hb,rfl⟩)
   ob:=fun b o hm=>(R10.ob b o hm).move lBB fun c hc=>⟨(eB c).symm.trans hc,rfl⟩
   nd:=R10.nd }
 exact h h9 tk9 t1 t2 x dx p R11 X9 hp MO.newX MO.newD hp0 px pd
end
end Mine
namespace Mine
open Builtin Builtin.ObjectAttr
section
variable {K:Kc} {n m:Nat} {env cenv ce:Env} {ρ ρ' ρ₁ ρ₂ ρ₃ ρ₀ ρc:Lo} {σ σ' σ₀ σ₁ σ₂ σ₃:List (Addr × O)} {g g₀ g₁ g₂ g₄:Gh} {s s₀ s' s₄:Shared} {A:Around} {items:List W} {mN:Str→Option Value} {E:Value→Shared→Prop}
theorem zQ5 {P:Addr} {cs:List (Pos × Str)} {qr ql:Str} {rp lp:Arguments} {rb:List Stmt} {rs ls:Scope} {pr q1 q2 q3 q4 q5 q6 q7 q8 q9 q10 q11:Pos} {lb:Expr}
  (LM:LexMk K mN env P cs qr ql rp rb rs pr lp ls q2) {initSt:Stmt} {fI:Addr} {fdI:FuncData} (MI:MethAt K mN "__init__" initSt fI fdI) {a1 a2 a3 a4 b1 b2 b3 b4 c1 c2 c3 c4 d1 d2 d3 d4:Pos} {k1 k2:Nat} (hbI:zb6 initSt=zo4 a1 a2 a3 a4 b1 b2 b3 b4 c1 c2 c3 c4 d1 d2 d3 d4 k1 k2)
  (PI : ∀ x f:Addr,Pars (za4 initSt) (zh6 initSt) [.ref x,.ref f] ⟨[("self",some (.ref x)),("fp",some (.ref f))],[]⟩)
  (hco:(za4 initSt).isCoroutine=false) (hgen:(za4 initSt).isGenerator=false) (hk:(za4 initSt).kind = .function)
  {pl:Addr} {full:List Nat} (hP:(P,O.codes cs)∈σ) (hsw1:swapsWith (.Lambda lp lb ls q2) (some (.Name ("stream" : Str) q1)) q3.line env=pure false) (hsw2:swapsWith (.Name ("read" : Str) q6) (some (.Attribute (.Name ("stream" : Str) q4) ("read" : Str) q5)) q7.line env=pure false) :
  ExN K (n+2) env (zA2 full pl none none) ((pl,.list [.int 0])::σ)
   [.FunctionDef ("read" : Str) rp rb [] none [] rs none ("read" : Str) pr,.Assign [.Name ("stream" : Str) q1] (.Lambda lp lb ls q2) q3,.Assign [.Attribute (.Name ("stream" : Str) q4) ("read" : Str) q5] (.Name ("read" : Str) q6) q7,
    .Return (some (.Call (.Name ("_netrclex" : Str) q8) [.Name ("stream" : Str) q9] [] q10)) q11] (.lex full 0 1 []) σ:=.mk fun A E s Q g F R h=>by
 have LK:=LM.LK
 refine obEA LM.code fun cO hcode hCd=>?_
 refine zh7 (R.cellAt (x := "place") (v:=.ref pl) (mm 3 rfl) LM.kp) fun cA uA lkA gA kA wA=>?_
 refine zh7 (R.cellAt (x := "text") (v:=.w (.str full)) (mm 0 rfl) LM.kt) fun cB uB lkB gB kB wB=>?_
 have hne:cA≠cB:=fun e=>by
  subst e
  have:=R.fr.inj _ _ _ lkA lkB
  exact absurd this (by decide +kernel)
 have nlA:=R.fr.nel _ _ lkA
 have nlB:=R.fr.nel _ _ lkB
 have hPm:(P,O.codes cs)∈((pl,O.list [.int 0])::σ):=List.mem_cons_of_mem _ hP
 refine wpAny_execs_cons (def0 LM.df LM.an ?_)
 rw [LM.n1]
 refine yj0 R hPm hcode hCd LM.bi LM.c1 (LM.cl cA cB lkA lkB) LM.d1 fun g1 h1 tk1 r l1 R1 N1=>?_
 refine zd9 N1.obj fun cc doc ctv hor hci=>?_
 have R1':=R1.tagAs (t:=.tmp) hor N1.fresh
 have l1':=l1.trans (Gh.le_set (t:=some .tmp) (o:={ cls:=.type "function",data:=.func (kdv_fn "read" qr rp (.stmts rb) rs [(("text" : Str),cB),("place",cA)] .none doc ((K.mg "__name__").getD .none) (.ref cc) ctv) }) N1.fresh)
 refine zy6 R1' (ρ':=zA2 full pl (some (.ref r)) none) (v:=.ref r) ⟨.tail .head,rfl⟩ rfl LM.kr fun h2 hs2 R2=>?_
 have gr:(g1.set r (some .tmp) { cls:=.type "function",data:=.func (kdv_fn "read" qr rp (.stmts rb) rs [(("text" : Str),cB),("place",cA)] .none doc ((K.mg "__name__").getD .none) (.ref cc) ctv) }).tag r=some .tmp:=(g1.set_self _ _ _).1
 have cr:(g1.set r (some .tmp) { cls:=.type "function",data:=.func (kdv_fn "read" qr rp (.stmts rb) rs [(("text" : Str),cB),("place",cA)] .none doc ((K.mg "__name__").getD .none) (.ref cc) ctv) }).con r=_:=(g1.set_self _ _ _).2
 have hci':=hci.mono (Gh.le_set (t:=some .tmp) (o:={ cls:=.type "function",data:=.func (kdv_fn "read" qr rp (.stmts rb) rs [(("text" : Str),cB),("place",cA)] .none doc ((K.mg "__name__").getD .none) (.ref cc) ctv) }) N1.fresh).leB
 have rn:g.tag r≠some .tmp:=fun e=>by have:=(l1.tmp r e).1; rw [N1.fresh] at this; cases this
 revert R2 gr cr hci' l1'
 generalize (g1.set r (some .tmp) { cls:=.type "function",data:=.func (kdv_fn "read" qr rp (.stmts rb) rs [(("text" : Str),cB),("place",cA)] .none doc ((K.mg "__name__").getD .none) (.ref cc) ctv) })=g2
 intro l2 R2 gr cr hci2
 refine wpAny_execs_cons (wpAny_Assign_Name (kla_eval LM.df2 ?_) hsw1)
 rw [LM.n2]
 refine yj0 R2 hPm hcode hCd LM.bi LM.c2 LM.cl2 LM.d2 fun g3 h3 tk3 f l3 R3 N3=>?_
 refine zd9 N3.obj fun ccf docf ctvf hof hcif=>?_
 refine zy6 R3 (ρ':=zA2 full pl (some (.ref r)) (some (.ref f))) (v:=.ref f) ⟨.tail (.tail .head),rfl⟩ rfl LM.ks fun h4 hs4 R4=>?_
 have nfl:f≠env.locals:=fun e=>by have:=R3.fr.lt; rw [← e,N3.fresh] at this; cases this
 have hf4:=(hs4.2 f nfl).trans hof
 refine wpAny_execs_cons (zO4 hsw2 (zm3 R4 (v:=.ref r) (mm 1 rfl) fun u hu=>?_))
 obtain rfl:=RV.refE hu
 refine zm3 R4 (v:=.ref f) (mm 2 rfl) fun u hu=>?_
 obtain rfl:=RV.refE hu
 refine zL5 hf4 rfl rfl (fun c e=>by cases e) fun h5 tk5 fd hf5 hfd0 hfd1 hns5 k5 _=>?_
 have R5:=R4.heap (h':=h5) (tk:=tk5) fun b t o e ho=>k5 b o (fun e2=>by subst e2; rw [N3.fresh] at e; cases e) ho
 have gfd:g3.tag fd=none:=R4.tagNone hfd0
 have nff:f≠fd:=fun e=>by subst e; rw [hf4] at hfd0; cases hfd0
 refine zd9 (id hns5) fun od es5 ep5 hod5 hrest5=>?_
 have R6:=(R5.tagAs (t:=.tmp) hf5 N3.fresh).tagAs (t:=.tmp) hod5 (by rw [(g3.set_ne _ _ nff.symm).1]; exact gfd)
 have hK6 : ∃ g6:Gh,Rep K g6 env (zA2 full pl (some (.ref r)) (some (.ref f))) ((pl,.list [.int 0])::σ) { s with heap:=h5,toks:=tk5 }∧g3.le g6∧g6.tag f=some .tmp∧g6.tag fd=some .tmp∧g6.con f = { cls:=.type "function",dict:=some fd,data:=Data.func (kdv_fn "<lambda>" ql lp (.expr lb) ls [] .none docf ((K.mg "__name__").getD .none) (.ref ccf) ctvf) }∧g6.con fd=od∧(∀ b,b≠f→b≠fd→g6.tag b=g3.tag b):=by
  refine ⟨_,R6,(Gh.le_set N3.fresh).trans (Gh.le_set (by rw [(g3.set_ne _ _ nff.symm).1]; exact gfd)),?_,(Gh.set_self _ _ _ _).1,?_,(Gh.set_self _ _ _ _).2,fun b e1 e2=>?_⟩
  ·rw [(Gh.set_ne _ _ _ nff).1]; exact (Gh.set_self _ _ _ _).1
  ·rw [(Gh.set_ne _ _ _ nff).2]; exact (Gh.set_self _ _ _ _).2
  ·rw [(Gh.set_ne _ _ _ e2).1,(Gh.set_ne _ _ _ e1).1]
 refine zp5 hK6 fun g6 R6' l36 gf6 gfd6 cf6 cfd6 t6=>?_
 clear R6
 have l26:=l3.trans l36
 have l06:=l2.trans l26
 refine wpAny_execs_cons (wpAny_Return_some (wpAny_Call_ofName ?_))
 refine Calls.Name_function_global R6'.fr.kind LM.kc (Calls.loadGlobal_global (by rw [R6'.fr.glob]; exact R6'.G.ng.keeps R6'.keeps) LM.mg ?_) (by decide +kernel)
 refine zb3 (id LK.cls) fun nm q N bs sn sub col dd k0 k1' k2' k3 k5' hC hN=>?_
 have X:ClsAt K.s₀.heap K.lexC N mN:=⟨⟨nm,q,bs,sn,sub,col,dd,k0,k1',k2',k3,k5',hC⟩,hN⟩
 refine callWith_cls X (spliced_more (zm3 R6' (v:=.ref f) (mm 2 rfl) fun u hu=>?_))
 obtain rfl:=RV.refE hu
 refine spliced_none ⟨R6'.keeps,?_⟩
 refine ya6 LK LM.hd MI hbI PI hco hgen hk F R6' fun h9 tk9 t1 t2 x dx p R9 X9 hp9 x0 dx0 p0 npx npd=>?_
 have gx:=R6'.tagNone x0
 have gdx:=R6'.tagNone dx0
 have gp:=R6'.tagNone p0
 refine zh7 (R9.cellAt (x := "place") (v:=.ref pl) (mm 3 rfl) LM.kp) fun cA' uA' lkA' gA' kA' wA'=>?_
 refine zh7 (R9.cellAt (x := "text") (v:=.w (.str full)) (mm 0 rfl) LM.kt) fun cB' uB' lkB' gB' kB' wB'=>?_
 rw [lkA] at lkA'; cases lkA'
 rw [lkB] at lkB'; cases lkB'
 simp only [RV] at wA'; subst wA'
 simp only [RV,RW] at wB'
 (refine obAE wB' fun hz tt zq2=>?_; subst zq2)
 (have zq:=l26.tmp r gr; have gr6:=zq.1; have cr6:=zq.2)
 have hr9:=(R9.fix r (.inr gr6)).trans (congrArg some (cr6.trans cr))
 have hf9:=(R9.fix f (.inr gf6)).trans (congrArg some cf6)
 have hd9:=(R9.fix fd (.inr gfd6)).trans (congrArg some cfd6)
 have hns9:=Ns.eqAt hns5 (hd9.trans hod5.symm)
 have nfr:f≠r:=fun e=>by
  subst e
  have:=(l3.tmp f gr).1
  rw [N3.fresh] at this; cases this
 have nfdr:fd≠r:=fun e=>by
  subst e
  have:=(l3.tmp fd gr).1
  rw [gfd] at this; cases this
 have RO:RdOk K (kdv_fn "read" qr rp (.stmts rb) rs [(("text" : Str),cB),("place",cA)] .none doc ((K.mg "__name__").getD .none) (.ref cc) ctv) cA cB:={
  body:=by rw [LM.eb]
  scope:=by rw [LM.es]
  clo:=.inr rfl
  glob:=rfl
  bui:=rfl
  bind:=fun u=>LM.bind _ _ _ _ _ u }
 refine zd4 (zL0 (tp:=0) (Q:=fun _=>True) LK LM.hd (R9.less (ρ':=⟨[],[]⟩) (σ':=((pl,.list [.int 0])::σ)) ⟨fun _=>by simp,fun _ _ h=>(nomatch h),fun _ _ h=>(nomatch h)⟩ (List.Sublist.refl _)) X9 hp9 gx gdx gp gf6 gfd6 gr6 gA' gB' npx npd nff nfr nfdr hne nlA nlB hf9 rfl rfl (fun c e=>by cases e) hns9 hr9 rfl rfl RO rfl (hci2.mono l26.leB) kA' kB' hz) fun gF RF b1' b2'=>?_
 have fin:g.le gF:=by
  refine ⟨fun b hb=>?_,fun b hb=>?_⟩
  ·(have zq:=l06.base b hb; have q1:=zq.1; have q2:=zq.2)
   (have zq:=b1' b q1; have q3:=zq.1; have q4:=zq.2)
   exact ⟨q3,q4.trans q2⟩
  ·(have zq:=l06.tmp b hb; have q1:=zq.1; have q2:=zq.2)
   have m1:=(l2.trans l3).tmp b hb
   (have zq:=b2' b q1 (fun e=>by subst e; rw [N3.fresh] at m1; cases m1.1) (fun e=>by subst e; rw [gfd] at m1; cases m1.1) (fun e=>by subst e; exact rn hb); have q3:=zq.1; have q4:=zq.2)
   exact ⟨q3,q4.trans q2⟩
 exact h gF _ x fin RF
end
end Mine
namespace Mine
section
variable {K:Kc} {n:Nat} {env:Env} {ρ ρ':Lo} {σ σ' σ₁:List (Addr × O)}
end
end Mine
namespace Mine
open Builtin.Str StrLaws
noncomputable abbrev sepS (p0 p1:Nat):Str:=⟨#[p0,p1]⟩
theorem zU9 {p0 p1:Nat} (T:List Nat) (k:Nat):At ⟨T.toArray⟩ (sepS p0 p1) T.length k↔(T.drop k).take 2=[p0,p1]:=by
 unfold At
 rw [subAt_eq]
 have e:(sepS p0 p1).length=2:=rfl
 rw [e]
 simp only [beq_iff_eq]
 constructor
 ·exact fun h=>h.2
 ·intro h
  refine ⟨?_,h⟩
  have:=congrArg List.length h
  simp at this
  lia
theorem zT8 (pre w r:List Nat) (k:Nat) (h1:pre.length≤k) (h2:k<pre.length+w.length) : ∃ c s,(pre++w++r).drop k=c::s∧c∈w:=by
 have e:(pre++w++r).drop k=w.drop (k - pre.length)++r:=by
  rw [List.append_assoc,List.drop_append]
  rw [List.drop_eq_nil_of_le h1,List.nil_append,List.drop_append]
  have:k - pre.length - w.length=0:=by omega
  rw [this]; rfl
 rw [e,List.drop_eq_getElem_cons (show k - pre.length<w.length by lia)]
 exact ⟨_,_,rfl,List.getElem_mem _⟩
theorem yc7 {a b:Str} (h:a.cps.toList=b.cps.toList):a=b:=by
 cases a; cases b; simp at h; rw [h]
theorem zN4 (pre w r:List Nat):strSub ⟨(pre++w++r).toArray⟩ pre.length (pre.length+w.length)=⟨w.toArray⟩:=by
 apply yc7
 rw [strSub_toList]
 have e2:pre.length+w.length - pre.length=w.length:=by simp
 rw [e2]
 simp
theorem zt3 {p0 p1:Nat} : ∀ (ws:List (List Nat)) (pre T:List Nat) (cuts:List Nat) (f:Nat),T=pre++zb7 [p0,p1] ws→ws≠[]→(∀ w∈ws,p0∉w) →
  ChainG ⟨T.toArray⟩ (sepS p0 p1) T.length pre.length cuts f→(∀ k,f≤k→¬ At ⟨T.toArray⟩ (sepS p0 p1) T.length k)→partsFrom ⟨T.toArray⟩ 2 pre.length cuts=ws.map fun w=>(⟨w.toArray⟩:Str)
 | [],_,_,_,_,_,h,_,_,_=>absurd rfl h
 | [w],pre,T,cuts,f,hT,_,hc,ch,no=>by
  have hw:=hc w (mm 0 rfl)
  have ej:T=pre++w:=hT
  cases cuts with
  | nil =>
   show [strSub _ _ _]=_
   have e:(⟨T.toArray⟩:Str).length=pre.length+w.length:=by rw [ej]; simp [Str.length]
   rw [e,ej]
   have:=zN4 pre w []
   rw [List.append_nil] at this
   rw [this]; rfl
  | cons c r =>
   (have h1:=ch.1; have h2:=ch.2.1)
   rw [zU9] at h2
   have hl:=congrArg List.length h2
   rw [ej] at hl
   simp at hl
   refine zc7 (zT8 pre w [] c h1 (by omega)) fun d s e hd=>?_
   rw [List.append_nil, ← ej] at e
   rw [e] at h2
   simp at h2
   rw [h2.1] at hd
   exact absurd hd hw
 | w::q::r,pre,T,cuts,f,hT,_,hc,ch,no=>by
  have hw:=hc w (mm 0 rfl)
  have ih:=zt3 (p0:=p0) (p1:=p1) (q::r) (pre++w++[p0,p1]) T
  have ej:zb7 [p0,p1] (w::q::r)=w++[p0,p1]++zb7 [p0,p1] (q::r):=rfl
  have e0:T=(pre++w++[p0,p1])++zb7 [p0,p1] (q::r):=by rw [hT,ej]; simp
  have e1:T=pre++w++([p0,p1]++zb7 [p0,p1] (q::r)):=by rw [hT,ej]; simp
  have el:(pre++w++[p0,p1]).length=pre.length+w.length+2:=by simp; exact Int.toNat_natCast _
  have hat:At ⟨T.toArray⟩ (sepS p0 p1) T.length (pre.length+w.length):=by
   rw [zU9,e1,List.drop_append,List.drop_eq_nil_of_le (by simp)]
   simp
  have hbefore : ∀ k,pre.length≤k→k<pre.length+w.length→¬ At ⟨T.toArray⟩ (sepS p0 p1) T.length k:=by
   intro k h1 h2 h3
   rw [zU9,e1] at h3
   refine zc7 (zT8 pre w ([p0,p1]++zb7 [p0,p1] (q::r)) k h1 h2) fun d s e hd=>?_
   rw [e] at h3
   simp at h3
   rw [h3.1] at hd
   exact hw hd
  cases cuts with
  | nil =>
   have hf:f=pre.length:=ch
   exact absurd hat (no _ (by lia))
  | cons c rs =>
   (have h1:=ch.1; have h2:=ch.2.1; have h3:=ch.2.2.1; have h4:=ch.2.2.2)
   have hce:c=pre.length+w.length:=by
    rcases Nat.lt_trichotomy c (pre.length+w.length) with h | h | h
    ·exact absurd h2 (hbefore c h1 h)
    ·exact h
    ·exact absurd hat (h3 _ (by exact Nat.le_add_right _ _) h)
   subst hce
   show strSub _ _ _::partsFrom _ 2 (pre.length+w.length+2) rs=_
   have es:strSub ⟨T.toArray⟩ pre.length (pre.length+w.length)=⟨w.toArray⟩:=by rw [e1]; exact zN4 pre w _
   rw [es]
   have h4':ChainG ⟨T.toArray⟩ (sepS p0 p1) T.length (pre.length+w.length+2) rs f:=h4
   rw [← el] at h4' ⊢
   rw [ih rs f e0 (by simp) (fun x hx=>hc x (List.mem_cons_of_mem _ hx)) h4' no]
   rfl
theorem zZ2 {p0 p1:Nat} (e:Builtin.Str.strKind (sepS p0 p1)=1) (x:Str) : ¬ Builtin.Str.strKind x<Builtin.Str.strKind (sepS p0 p1):=by
 rw [e]
 unfold Builtin.Str.strKind
 split
 ·simp
 ·split <;> trivial
theorem zl7 {p0 p1:Nat} (ws:List (List Nat)) (h:ws≠[]) (hc : ∀ w∈ws,p0∉w) (hk1:Builtin.Str.strKind (sepS p0 p1)=1:=by decide +kernel):zf1 (zb7 [p0,p1] ws) [p0,p1]=ws:=by
 have hT:zb7 [p0,p1] ws=[]++zb7 [p0,p1] ws:=rfl
 have hm:(ws.map fun w=>(⟨w.toArray⟩:Str)).map (fun s=>s.cps.toList)=ws:=by simp [Function.comp_def]
 unfold zf1 Txt.split
 have hk:=zZ2 hk1 ⟨(zb7 [p0,p1] ws).toArray⟩
 refine obEA (occ_tight ⟨(zb7 [p0,p1] ws).toArray⟩ (sepS p0 p1) (by simp [Str.length])) fun f ch no=>?_
 have key:=zt3 (p0:=p0) (p1:=p1) ws [] (zb7 [p0,p1] ws) _ f hT h hc (by simpa [Str.length] using ch) (by simpa [Str.length] using no)
 have hl:(⟨(zb7 [p0,p1] ws).toArray⟩:Str).length=(zb7 [p0,p1] ws).length:=by simp [Str.length]
 rw [decide_eq_false hk,Bool.or_false]
 split
 ·rename_i hlen
  have hlen:(zb7 [p0,p1] ws).length<2:=by
   have:=of_decide_eq_true hlen
   rw [hl] at this
   exact this
  clear key ch no hk hm hT hl
  rcases ws with _ | ⟨w,_ | ⟨q,r⟩⟩
  ·exact absurd rfl h
  ·rfl
  ·rw [show zb7 [p0,p1] (w::q::r)=w++[p0,p1]++zb7 [p0,p1] (q::r) from rfl] at hlen
   simp only [List.length_append,List.length_cons,List.length_nil] at hlen
   lia
 ·split
  ·rename_i he
   have e:occurrences ⟨(zb7 [p0,p1] ws).toArray⟩ (sepS p0 p1) 0 (⟨(zb7 [p0,p1] ws).toArray⟩:Str).length ((⟨(zb7 [p0,p1] ws).toArray⟩:Str).length+1)=[]:=List.isEmpty_iff.mp he
   rw [hl] at e
   rw [e] at key
   have e3:[strSub ⟨(zb7 [p0,p1] ws).toArray⟩ 0 (⟨(zb7 [p0,p1] ws).toArray⟩:Str).length]=ws.map fun w=>(⟨w.toArray⟩:Str):=key
   rw [sub_whole] at e3
   rw [e3]; exact hm
  ·rw [partsBetween_eq]
   rw [hl]
   have e4:(sepS p0 p1).length=2:=rfl
   show List.map _ (partsFrom _ 2 0 _)=_
   rw [show (0:Nat)=([]:List Nat).length from rfl]
   exact (congrArg (List.map _) key).trans hm
end Mine
namespace Mine
section
variable {K:Kc} {n:Nat} {env:Env} {ρ ρ':Lo} {σ σ' σ₁:List (Addr × O)}
end
end Mine
namespace Mine
section
variable {K:Kc} {n:Nat} {env:Env} {ρ ρ':Lo} {σ σ' σ₁:List (Addr × O)} {g:Gh}
end
end Mine
namespace Mine
section
variable {K:Kc} {n:Nat} {σ σ' σ₁ σ₂:List (Addr × O)} {env:Env} {ρ ρ' ρ₁:Lo} {g:Gh} {s:Shared}
theorem RWs.map_int2 {g:Gh} : ∀ {l:List Int} {vs:List Value},RWs g (l.map W.int) vs→∃ xs:List (Int × Tok),vs=xs.map (fun p=>Value.int p.1 p.2)∧xs.map (·.1)=l
 | [],vs,h=>by simp only [List.map_nil,RWs] at h; subst h; exact ⟨[],rfl,rfl⟩
 | i::l,vs,h=>by
  simp only [List.map_cons,RWs,RW] at h
  (refine zb2 h fun v r zq2 zq3 h2=>?_; subst zq2; obtain ⟨t,rfl⟩:=zq3)
  refine obEA (RWs.map_int2 h2) fun xs e1 e2=>?_
  exact ⟨(i,t)::xs,by simp [e1],by simp [e2]⟩
theorem Fn.sum {ns:List Int} (hd:K.hd=none):Fn K n (.builtin "sum") [.w (.list (ns.map W.int))] σ (.w (.int ns.sum)) σ:=.mk fun A E s Q g env ρ us F R hu h=>by
 simp only [RVs,RV] at hu
 (refine zb2 hu fun u r zq2 h1 zq4=>?_; subst zq2; subst zq4)
 (refine zd6 (RW.list R h1) fun a vs m zq3=>?_; obtain ⟨rfl,_,e1,z1,w1⟩:=zq3)
 refine obEA (RWs.map_int2 w1) fun xs e2 e3=>?_
 have ev:vs=intItems xs.toArray:=by
  apply Array.toList_inj.mp
  rw [e2]; simp [intItems]
 subst ev
 refine sum_intListG (by rw [F.hand,hd]) (isL e1) fun h' tk t' hk=>?_
 refine h g _ _ (.refl _) (R.heap (tk:=tk) fun b t o _ ho=>hk b o ho) ?_
 have e:preSum (numAt xs.toArray) xs.toArray.size=ns.sum:=by
  rw [preSum_eq,List.take_of_length_le (by simp), ← e3]
 rw [e]
 simp only [RV,RW]; exact ⟨_,rfl⟩
theorem Fn.strip {p q r:List Nat} (hq:Txt.stripChars ⟨p.toArray⟩ ⟨q.toArray⟩=⟨r.toArray⟩) (hp:p.length≤sizeLine) (hf:r.length≤sizeLine):Fn K n (.builtin "str.strip") [.w (.str p),.w (.str q)] σ (.w (.str r)) σ:=.mk fun A E s Q g env ρ us F R hu h=>by
 simp only [RVs,RV,RW] at hu
 (refine zc0 hu fun u r' zq2 zq3 u2 r2 zq6 zq7 zq8=>?_; subst zq2; obtain ⟨_,t,rfl⟩:=zq3; subst zq6; obtain ⟨_,t2,rfl⟩:=zq7; subst zq8)
 exact KXw.stripChars hq (by simpa [Str.length] using hp) fun t' k=>h _ _ _ (.refl _) (R.toks _) (by simp only [RV,RW]; exact ⟨hf,_,rfl⟩)
noncomputable def repL (xs:List W) (k:Int):List W:=(List.replicate k.toNat xs).flatten
theorem RWs.rep {xs:List W} {us:List Value} (h:RWs g xs us) : ∀ k,RWs g (List.replicate k xs).flatten (List.replicate k us).flatten
 | 0=>RWs.nil
 | k+1=>by simpa [List.replicate_succ] using h.append (RWs.rep h k)
theorem Opn.mulL {xs:List W} {k:Int} (hlo : -(2 ^ 63:Int)≤k) (hhi:k<2 ^ 63) (hl:xs.length*k.toNat≤2 ^ 24):Opn K n (binaryOp .Mult) (.list xs) (.int k) (.list (repL xs k)):=.mk fun A E s Q g env ρ σ u v _ R hu hv h=>by
 (refine zd6 (RW.list R hu) fun a vs n1 zq3=>?_; obtain ⟨rfl,_,e1,z1,w1⟩:=zq3)
 simp only [RW] at hv
 obtain ⟨t,rfl⟩:=hv
 refine wpAny_binaryOp_repeat_ref (T := "list") (U := "int") (by decide) ⟨_,e1,rfl⟩ (fun s'=>typeIs_int s' k t) noFill_list_mul F.fills_int_mul F.slot_int_rmul repeat_list F.slot_int_index.lookup
  (call_meets F.slot_int_rmul (typeIs_int s k t) F.entry_int_rmul (F.args_int_rmul_2 _ _) (lm_int_rmul_list_any k t a vs n1 none #[])
   ⟨e1,rfl,⟨_,e1,rfl⟩,call_meets F.slot_list_mul ⟨_,e1,rfl⟩ F.entry_list_mul (F.args_list_mul_2 _ _)
    (lm_list_mul_any a vs n1 none #[] k t (by simp [Builtin.List.listFitsIndex]; trivial) (by have:=z1.2; rw [this]; lia) (by have:=z1.2; simp [Builtin.List.listTooLong,sizeLine]; rw [this]; assumption))
    ⟨e1,?_⟩⟩)
 have e3:(List.foldl (fun x1 x2=>x1++x2) #[] (List.replicate (if vs.isEmpty=true then 0 else k.toNat) vs))=((List.replicate k.toNat vs.toList).flatten).toArray:=by
  have:=listMul_foldl_if vs k.toNat
  rw [this]
 rw [e3]
 refine zd4 (R.newL (xs:=repL xs k) (us:=(List.replicate k.toNat vs.toList).flatten) (RWs.rep w1 _) (by unfold repL; rw [sizeLine_eq]; simp; rw [Nat.mul_comm]; lia)) fun g' l hw R'=>?_
 exact h _ _ _ l R' hw
end
end Mine
namespace Mine
section
variable {K:Kc} {n:Nat} {σ σ' σ₁ σ₂:List (Addr × O)} {env:Env} {ρ ρ' ρ₁:Lo} {g g₀:Gh} {s:Shared} {items:List W} {A:Around} {scope:Scope} {elt iter:Expr} {ifs:List Expr} {pos spos p:Pos}
theorem Wk.listT {I l:Addr} {us:Array Value} {elts:List Expr} {k:Nat} {p:Pos} (hA:A.handled=K.hd) (ht:g₀.tag l=some .base) (hI:g₀.tag I=none) (hw:RWs g₀ items us.toList) (hp : ∀ z∈items,(∃ l,z = .list l)∨∃ l,z = .tuple l) :
  Wk K A I [I,l] [I] items g₀ (fun i h=>h.IsListIter I l i∧h.IsList l us) (.Tuple elts k p):=by
 have hne:l≠I:=by rintro rfl; rw [hI] at ht; cases ht
 have hlen:us.size=items.length:=by simpa using hw.length
 exact {
  sub:=fun b hb=>by simp at hb; simp [hb]
  wr0:=fun b hb=>by rw [List.mem_singleton.mp hb]; exact hI
  ro:=fun b hb hn=>by
   simp at hb hn
   rcases hb with rfl | rfl
   ·exact absurd rfl hn
   ·exact .inl ht
  alive:=fun i h st b hb=>by rw [List.mem_singleton.mp hb]; refine obEA st.1 fun o e _=>?_; exact ⟨o,e⟩
  frame:=fun _ _ _ st hk=>⟨st.1.at fun o e=>hk I (by simp) o e,st.2.at fun o e=>hk l (by simp) o e⟩
  step:=fun {i s Q E g env ρ σ} hi st R hle hw0 h=>by
   have hiu:i<us.size:=by lia
   refine wpAny_pyNext_list_item st.1 st.2 (x:=us[i]) (by simp [hiu]) fun h' hit' hs'=>?_
   refine obEA (hw.get i (List.getElem?_eq_getElem hi)) fun v hv hr=>?_
   have e2:us[i]=v:=by
    rw [Array.getElem?_toList] at hv
    simpa [hiu] using hv
   obtain ⟨T,e3⟩ : ∃ T,us[i] = .ref T:=by
    rw [e2]
    rcases hp _ (List.getElem_mem hi) with ⟨l,e⟩ | ⟨l,e⟩
    ·rw [e] at hr; simp only [RW] at hr; refine zc7 hr fun a _ e _=>?_; exact ⟨a,e⟩
    ·rw [e] at hr; simp only [RW] at hr; refine zc7 hr fun a _ e _=>?_; exact ⟨a,e⟩
   have:wpAny (KM K) A (letOwnedTupleGo (.Tuple elts k p) (.ref I) (.ref T)) (fun _ s₂=>Q (.ref T) s₂) E { s with heap:=h' }:=wpAny_letOwnedTupleGo_listiter hit' (by
    rw [← e3]
    refine h g _ us[i] _ (List.getElem?_eq_getElem hi) (by rw [e2]; exact RW.mono hle.leB hr) (.refl _) (R.off (tk:=s.toks) hw0 fun b o hb e=>hs'.extBut b o (fun h=>hb (by simp [h])) e) hw0 ⟨hit',st.2.extBut hs'.extBut hne⟩)
   rw [e3]
   exact this
  done:=fun {s Q E g env ρ σ} st R hle hw0 h=>by
   refine zt7 (HdOk.freeA R hA) (HdOk.neA R hA (hw0 I (by simp))) st.1 st.2 (by simp [hlen]) fun h' he'=>h _ (R.off (tk:=s.toks) hw0 fun b o hb e=>he' b o (fun h=>hb (by simp [h])) e)
  self:=fun _ _ _ _ st hQ=>wpAny_pyIter_listiter st.1 hQ }
theorem ItN.listT {e:Expr} {elts:List Expr} {k:Nat} {p:Pos} (h1:Ev K n env ρ e σ (.w (.list items)) σ') (hp : ∀ z∈items,(∃ l,z = .list l)∨∃ l,z = .tuple l):ItN K n env ρ e σ items σ' (.Tuple elts k p):=.mk fun A E s Q g F R h =>
 h1 F R fun g1 s1 u l1 R1 r1=>by
  simp only [RV] at r1
  (refine zd6 (RW.list R1 r1) fun a vs m zq3=>?_; obtain ⟨rfl,ht,e1,z1,w1⟩:=zq3)
  refine wpAny_pyIter_list (isL e1) ?_
  have hI:=R1.fresh
  refine h g1 _ _ _ _ _ l1 (R1.push _) (Wk.listT F.hand ht hI w1 hp) ⟨⟨_,Heap.get?_push_size _ rfl,rfl,rfl⟩,(isL e1).push _⟩
theorem Bind.pairL {x y:Str} {p q pos:Pos} {k:Nat} {a b:W} (hd:K.hd=none) (h1:SetV ρ x (.w a) ρ₁) (h2:SetV ρ₁ y (.w b) ρ') :
  Bind K n env (.Tuple [.Name x p,.Name y q] k pos) (.list [a,b]) ρ ρ':=.mk fun A E s Q g u σ F R r h=>by
 (refine zd6 (RW.list R r) fun t vs m zq3=>?_; obtain ⟨rfl,ht,hT,hz,hw⟩:=zq3)
 rw [assign_Tuple]
 refine wpAny_bind (wpAny_standAt ?_)
 unfold unpack
 rw [show (assignEach [.Name x p,.Name y q] env).length=vs.size by rw [hz.2]; rfl,show (assignEach [.Name x p,.Name y q] env).findIdx? (·.1)=none from rfl]
 refine wpAny_bind (wpAny_holding (kun_itemsOf (by rw [F.hand,hd]) (isL hT) fun h' he=>?_))
 have R1:Rep K g env ρ σ { s with heap:=h' }:=R.heap (tk:=s.toks) fun b t o e ho=>he b o (Nat.ne_of_lt (R.lt e)) ho
 simp only [RWs] at hw
 refine zc0 hw fun v1 r1 e1 hv1 v2 r2 e2 hv2 e3=>?_
 subst e3; subst e2
 rw [e1]
 show wpAny _ A (assignInOrder [assign (.Name x p) env,assign (.Name y q) env] [v1,v2]) _ _ _
 refine wpAny_assignInOrder_more (wpAny_assign_Name (zb4 R1 h1 (by exact hv1) fun s2 R2=>?_))
 refine wpAny_assignInOrder_more (wpAny_assign_Name (zb4 R2 h2 (by exact hv2) fun s3 R3=>?_))
 exact wpAny_assignInOrder_none (h s3 R3)
noncomputable def zl3 (f:W→W) (items:List W):Nat→Option V
 | 0=>none
 | k+1=>(items[k]?).map fun z=>V.w (f z)
theorem Turns.pair {sc:Scope} {x y:Str} {px py pt:Pos} {kt:Nat} {cs:List (Str × V)} (fa fb:W→W) (f:W→Option W) (hd:K.hd=none) (hxy : ∀ z∈items,z = .tuple [fa z,fb z]∨z = .list [fa z,fb z])
  (h : ∀ ce:Env,ce.scope=sc→∀ z∈items,(f z=none∧TsC K n ce ⟨[(x,some (.w (fa z))),(y,some (.w (fb z)))],cs⟩ ifs σ false σ) ∨
    (∃ w,f z=some w∧TsC K n ce ⟨[(x,some (.w (fa z))),(y,some (.w (fb z)))],cs⟩ ifs σ true σ∧Ev K n ce ⟨[(x,some (.w (fa z))),(y,some (.w (fb z)))],cs⟩ elt σ (.w w) σ)) :
  Turns K n sc (.Tuple [.Name x px,.Name y py] kt pt) elt ifs items (fun k=>⟨[(x,zl3 fa items k),(y,zl3 fb items k)],cs⟩) (fun _=>σ) (fun k=>(items.take k).filterMap f):=fun ce hce k z hz=>by
 obtain ⟨hk,rfl⟩:=List.getElem?_eq_some_iff.mp hz
 have e1:zl3 fa items (k+1)=some (.w (fa items[k])):=by simp [zl3,hz]
 have e2:zl3 fb items (k+1)=some (.w (fb items[k])):=by simp [zl3,hz]
 dsimp only
 rw [e1,e2]
 have et:items.take (k+1)=items.take k++[items[k]]:=(List.take_append_getElem hk).symm
 refine ⟨?_,?_⟩
 ·have s1:SetV ⟨[(x,zl3 fa items k),(y,zl3 fb items k)],cs⟩ x (.w (fa items[k])) ⟨[(x,some (.w (fa items[k]))),(y,zl3 fb items k)],cs⟩:=⟨.head,rfl⟩
  have s2:SetV ⟨[(x,some (.w (fa items[k]))),(y,zl3 fb items k)],cs⟩ y (.w (fb items[k])) ⟨[(x,some (.w (fa items[k]))),(y,some (.w (fb items[k])))],cs⟩:=⟨.tail .head,rfl⟩
  rcases hxy _ (List.getElem_mem hk) with e | e
  ·have:=Bind.pair (K:=K) (n:=n) (env:=ce) (p:=px) (q:=py) (pos:=pt) (k:=kt) hd s1 s2
   rw [← e] at this; exact this
  ·have:=Bind.pairL (K:=K) (n:=n) (env:=ce) (p:=px) (q:=py) (pos:=pt) (k:=kt) hd s1 s2
   rw [← e] at this; exact this
 ·rcases h ce hce items[k] (List.getElem_mem hk) with ⟨h1,h2⟩ | ⟨w,h1,h2,h3⟩
  ·exact .inl ⟨h2,by show List.filterMap f _=_; rw [et,List.filterMap_append]; simp [h1]⟩
  ·exact .inr ⟨σ,w,h2,h3,by show List.filterMap f _=_; rw [et,List.filterMap_append]; simp [h1]⟩
theorem Ev.compPair {x y:Str} {px py pt:Pos} {kt:Nat} {cs:List (Str × V)} (fa fb:W→W) (f:W→Option W) (hd:K.hd=none) (hi:ItN K n env ρ iter σ items σ' (.Tuple [.Name x px,.Name y py] kt pt)) (C:Caps K env ρ scope ⟨[(x,none),(y,none)],cs⟩) (hz:items.length≤sizeLine)
  (hxy : ∀ z∈items,z = .tuple [fa z,fb z]∨z = .list [fa z,fb z])
  (h : ∀ ce:Env,ce.scope=relabel scope env→∀ z∈items,(f z=none∧TsC K n ce ⟨[(x,some (.w (fa z))),(y,some (.w (fb z)))],cs⟩ ifs σ' false σ') ∨
    (∃ w,f z=some w∧TsC K n ce ⟨[(x,some (.w (fa z))),(y,some (.w (fb z)))],cs⟩ ifs σ' true σ'∧Ev K n ce ⟨[(x,some (.w (fa z))),(y,some (.w (fb z)))],cs⟩ elt σ' (.w w) σ'))
  (hs : ∀ x,foldedSetIterable iter env x=pure x:=by intro _; rfl) :
  Ev K n env ρ (.ListComp elt [⟨.Tuple [.Name x px,.Name y py] kt pt,iter,ifs,0⟩] scope pos) σ (.w (.list (items.filterMap f))) σ':=by
 have e:(items.take items.length).filterMap f=items.filterMap f:=by simp
 rw [← e]
 exact Ev.comp (pos:=pos) (fun k=>⟨[(x,zl3 fa items k),(y,zl3 fb items k)],cs⟩) (fun _=>σ') (fun k=>(items.take k).filterMap f) hi C hz (by simp) (fun _=>rfl) (Turns.pair fa fb f hd hxy h) hs
theorem Ex1.assignPair {t x y:Str} {px py pt:Pos} {kt:Nat} {cs:List (Str × V)} (fa fb:W→W) (f:W→Option W) (hd:K.hd=none) (hi:ItN K n env ρ iter σ items σ' (.Tuple [.Name x px,.Name y py] kt pt)) (C:Caps K env ρ scope ⟨[(x,none),(y,none)],cs⟩) (hz:items.length≤sizeLine)
  (hxy : ∀ z∈items,z = .tuple [fa z,fb z]∨z = .list [fa z,fb z])
  (h : ∀ ce:Env,ce.scope=relabel scope env→∀ z∈items,(f z=none∧TsC K n ce ⟨[(x,some (.w (fa z))),(y,some (.w (fb z)))],cs⟩ ifs σ' false σ') ∨
    (∃ w,f z=some w∧TsC K n ce ⟨[(x,some (.w (fa z))),(y,some (.w (fb z)))],cs⟩ ifs σ' true σ'∧Ev K n ce ⟨[(x,some (.w (fa z))),(y,some (.w (fb z)))],cs⟩ elt σ' (.w w) σ'))
  (hv:SetV ρ t (.w (.list (items.filterMap f))) ρ')
  (hsw:swapsWith (.ListComp elt [⟨.Tuple [.Name x px,.Name y py] kt pt,iter,ifs,0⟩] scope pos) (some (.Name t p)) spos.line env=pure true) (hs : ∀ x,foldedSetIterable iter env x=pure x:=by intro _; rfl) :
  Ex1 K n env ρ σ (.Assign [.Name t p] (.ListComp elt [⟨.Tuple [.Name x px,.Name y py] kt pt,iter,ifs,0⟩] scope pos) spos) .next ρ' σ' :=
 Ex1.assignComp (fun k=>⟨[(x,zl3 fa items k),(y,zl3 fb items k)],cs⟩) (fun _=>σ') (fun k=>(items.take k).filterMap f) hi C hz (by simp) (fun _=>rfl) (Turns.pair fa fb f hd hxy h) (by simpa using hv) hsw hs
end
end Mine
namespace Mine
theorem yd6 (a:Nat) (h:a≤40):(Builtin.Int.intBits 2:Int)*((a:Nat):Int)≤2 ^ 27:=by
 have e:Builtin.Int.intBits 2=2:=by decide
 rw [e]; lia
theorem zX5 (a b:Nat) (ha:a<2 ^ 40):IntMulOk (a:Int) (b:Int):=IntMulOk.of_left (intBits_le_64 (by lia) (by lia))
section
variable {K:Kc} {n:Nat} {σ σ' σ₁ σ₂:List (Addr × O)} {env:Env} {ρ ρ' ρ₁:Lo} {e1 e2:Expr} {q q1 q2 q3 q4 q5 q6:Pos} {k k2 k3:Nat}
theorem Ev.pow2 {a:Nat} (ha:a≤40) (h2:Ev K n env ρ e2 σ (.w (.int a)) σ):Ev K n env ρ (.BinOp (.Constant (.int 2) k q) .Pow e2 q1) σ (.w (.int ((2 ^ a:Nat):Int))) σ:=by
 refine Ev.conv (v:=.w (.int ((2:Int) ^ ((a:Nat):Int).toNat))) (Ev.bin Ev.cint h2 (Opn.powI (by exact Int.natCast_nonneg _) (yd6 a ha))) ?_
 rw [Int.toNat_natCast]; push_cast; rfl
theorem Ev.mulPow {N a:Nat} (hN:N<2 ^ 40) (ha:a≤40) (h1:Ev K n env ρ e1 σ (.w (.int (N:Nat))) σ) (h2:Ev K n env ρ e2 σ (.w (.int a)) σ) :
  Ev K n env ρ (.BinOp e1 .Mult (.BinOp (.Constant (.int 2) k q) .Pow e2 q1) q2) σ (.w (.int ((N*2 ^ a:Nat):Int))) σ :=
 Ev.conv (Ev.bin h1 (Ev.pow2 ha h2) (Opn.mulI (zX5 _ _ hN))) (by congr 2)
theorem zK3 (a:Nat) (ha:a<40) (x:Int):Builtin.divisionGoesByPylong x ((2 ^ a:Nat):Int)=false:=by
 refine PyProof.noPylong_of_log2 ?_
 have : ∀ k:Fin 40,(((2 ^ k.val:Nat):Int)).natAbs.log2<9000:=by decide +kernel
 exact this ⟨a,ha⟩
theorem Ev.divPow {N a:Nat} (ha:a<40) (h1:Ev K n env ρ e1 σ (.w (.int (N:Nat))) σ) (h2:Ev K n env ρ e2 σ (.w (.int a)) σ) :
  Ev K n env ρ (.BinOp e1 .FloorDiv (.BinOp (.Constant (.int 2) k q) .Pow e2 q1) q2) σ (.w (.int ((N/2 ^ a:Nat):Int))) σ :=
 Ev.conv (Ev.bin h1 (Ev.pow2 (by exact Nat.le_of_lt ‹_›) h2) (Opn.divI (by have:=Nat.two_pow_pos a; exact Int.ofNat_lt.mpr ‹_›) (zK3 a ha _))) (by congr 2)
theorem Ev.modN {N m:Nat} (hm:0<m) (h1:Ev K n env ρ e1 σ (.w (.int (N:Nat))) σ):Ev K n env ρ (.BinOp e1 .Mod (.Constant (.int m) k q) q1) σ (.w (.int ((N%m:Nat):Int))) σ :=
 Ev.conv (Ev.bin h1 Ev.cint (Opn.modI (by exact Int.ofNat_lt.mpr ‹_›))) (by congr 2)
theorem Ev.divN {N m:Nat} (hm:0<m) (hm2:m<1000000) (h1:Ev K n env ρ e1 σ (.w (.int (N:Nat))) σ):Ev K n env ρ (.BinOp e1 .FloorDiv (.Constant (.int m) k q) q1) σ (.w (.int ((N/m:Nat):Int))) σ :=
 Ev.conv (Ev.bin h1 Ev.cint (Opn.divI (by lia) (PyProof.noPylong_small (by exact Nat.lt_of_lt_of_le ‹_› (by decide))))) (by congr 2)
theorem Ts.bit {N p:Nat} (hp:p<40) (h1:Ev K n env ρ e1 σ (.w (.int (N:Nat))) σ) (h2:Ev K n env ρ e2 σ (.w (.int p)) σ) :
  Ts K n env ρ (.Compare (.BinOp (.BinOp e1 .FloorDiv (.BinOp (.Constant (.int 2) k q) .Pow e2 q1) q2) .Mod (.Constant (.int 2) k2 q3) q4) [.Eq] [.Constant (.int 1) k3 q5] q6) σ (N.testBit p) σ:=by
 refine Ts.conv (Ts.cmp (Ev.modN (m:=2) (by exact Nat.succ_pos _) (Ev.divPow hp h1 h2)) Ev.cint Opn.eqI) ?_
 rw [Nat.testBit_eq_decide_div_mod_eq]
 by_cases h:N/2 ^ p%2=1
 ·rw [h]; rfl
 ·rw [decide_eq_false h,decide_eq_false_iff_not]; lia
theorem zh3 {env:Env} {sc:Scope} (he:env.scope=sc) {elt:Expr} {gs:List Comprehension} {s:Scope} {p pos:Pos} {t:Str} {line:Nat} (h:(sc.kind==ScopeKind.function&&sc.names.lookup t==some .local&&pos.line==p.line && !(s.names.any fun (n,k)=>n==t&&(k == .local||k == .cell)))=false)
  (hk:sc.kind = .function:=by rfl):swapsWith (.ListComp elt gs s p) (some (.Name t pos)) line env=pure false:=by
 show (pure (env.blockKind == .function&&env.kindOf t==some .local&&pos.line==p.line && !(s.names.any fun (n,k)=>n==t&&(k == .local||k == .cell))):Sem Bool)=_
 have hb:env.blockKind=sc.kind:=by
  unfold Env.blockKind
  rw [he,hk]; rfl
 rw [hb,Env.kindOf,he,h]
theorem zx5 : ∀ l:List Int,wseq (l.map W.int) (l.map W.int)=some true
 | []=>rfl
 | a::l=>by simp [wseq,weq,zx5 l]
end
end Mine
namespace Mine
local macro_rules | `(tactic| walk_at "mem") => `(tactic| first | with_reducible exact List.mem_cons_self | (with_reducible refine List.mem_cons_of_mem _ ?_; walk_at "mem") | (dsimp only; walk_at "mem"))
local macro_rules | `(tactic| walk_at "setv") => `(tactic| first | with_reducible exact SetL.head | (with_reducible first | apply SetL.tail | apply SetV.of); walk_at "setv" | (dsimp only; walk_at "setv"))
local macro_rules | `(tactic| walk_at "auto") => `(tactic| first | with_unfolding_all rfl | with_unfolding_all (intro _; rfl) | decide +kernel)
local macro_rules | `(tactic| walk_at "go") => `(tactic| with_reducible first
 | exact Ev.cint | exact Evs.nil | exact EvW.nil | exact Opn.andI | exact Opn.addI | exact Opn.subI | exact Opn.eqI | exact Opn.eqS | exact Opn.gtI | exact Opn.ltI
 | (apply Ev.name; walk_at "mem"; kernel_rfl)
 | (apply Ev.str; decide +kernel)
 | (apply Evs.cons; walk_at "go"; walk_at "go"; walk_at "auto")
 | (apply EvW.cons; walk_at "go"; walk_at "go"; walk_at "auto")
 | (apply Ev.bin; walk_at "go"; walk_at "go"; walk_at "go")
 | (apply Ts.cmp; walk_at "go"; walk_at "go"; walk_at "go"; walk_at "auto")
 | (apply Ts.val; walk_at "go"; walk_at "auto"; walk_at "auto")
 | (apply Ev.cap; walk_at "mem"; kernel_rfl; kernel_rfl)
 | (apply Ev.gint; exact za0 (by assumption) (by kernel_rfl); assumption; kernel_rfl)
 | (refine Opn.modI ?_; first | assumption | omega | decide))
local macro_rules | `(tactic| walk_at "less") => `(tactic| first | with_reducible exact Less.refl _ | (with_reducible first | apply Less.keep | apply Less.skip | apply Less.drop); walk_at "less")
noncomputable abbrev p3:=Challenge.pw_uc0008_02
noncomputable abbrev yh8:=stAt p3 16
theorem zN5 {K:Kc} {n:Nat} {σ:List (Addr × O)} {a0:Addr} {fd:FuncData} (D:DefAt K "_substitution_cost" yh8 a0 fd) (h2 : ∃ t,K.mg "_MOVE_COST" = some (.int 2 t)) (h1 : ∃ t,K.mg "_CASE_COST" = some (.int 1 t)) (a b a' b':List Nat)
  (ha:Txt.lower ⟨a.toArray⟩=⟨a'.toArray⟩) (hb:Txt.lower ⟨b.toArray⟩=⟨b'.toArray⟩) (hza:a'.length≤sizeLine) (hzb:b'.length≤sizeLine) :
  Calls K (n+1) "_substitution_cost" [.w (.str a),.w (.str b)] σ (.w (.int (if a=b then 0 else if a'=b' then 1 else 2))) σ:=by
 refine Calls.of D (Pars.ofN (l:=[]) rfl (by decide +kernel) (by decide +kernel)) (ρ':=⟨[("ch_a",some (.w (.str a))),("ch_b",some (.w (.str b)))],[]⟩) (fun env he=>?_) (.inl rfl)
 show Ex K n env ⟨[("ch_a",some (.w (.str a))),("ch_b",some (.w (.str b)))],[]⟩ _ _ _ _ _
 conv=>arg 6; whnf
 by_cases c1:a=b
 ·rw [if_pos c1]
  (with_reducible apply Ex.stop; rotate_left; focus (first | (intro h; cases h; done) | simp)); apply Ex1.iteT
  ·walk_at "go"
  ·simp [c1]
  ·(with_reducible apply Ex.one; with_reducible apply Ex1.ret; walk_at "go")
 ·rw [if_neg c1]
  apply Ex.cons
  ·apply Ex1.iteF
   ·walk_at "go"
   ·simp [c1]
   ·exact Ex.nil
  by_cases c2:a'=b'
  ·rw [if_pos c2]
   (with_reducible apply Ex.stop; rotate_left; focus (first | (intro h; cases h; done) | simp)); apply Ex1.iteT
   ·apply Ts.cmp
    ·exact Ev.methS (by walk_at "go") PySem.F.slot_str_lower PySem.F.type_str_lower Evs.nil (Fn.lower ha hza)
    ·exact Ev.methS (by walk_at "go") PySem.F.slot_str_lower PySem.F.type_str_lower Evs.nil (Fn.lower hb hzb)
    ·walk_at "go"
    ·with_unfolding_all rfl
   ·simp [c2]
   ·(with_reducible apply Ex.one; with_reducible apply Ex1.ret; walk_at "go")
  ·rw [if_neg c2]
   apply Ex.cons
   ·apply Ex1.iteF
    ·apply Ts.cmp
     ·exact Ev.methS (by walk_at "go") PySem.F.slot_str_lower PySem.F.type_str_lower Evs.nil (Fn.lower ha hza)
     ·exact Ev.methS (by walk_at "go") PySem.F.slot_str_lower PySem.F.type_str_lower Evs.nil (Fn.lower hb hzb)
     ·walk_at "go"
     ·with_unfolding_all rfl
    ·simp [c2]
    ·exact Ex.nil
   ·(with_reducible apply Ex.one; with_reducible apply Ex1.ret; walk_at "go")
noncomputable def yf3 (H:List Int) (k:Nat) (x:Int):List Int:=H.set (k%6) (H.getD (k%6) 0+x%1000000)
noncomputable def ze6 (H:List Int) (ns:List Int):Nat→List Int
 | 0=>H
 | k+1=>yf3 (ze6 H ns k) k (ns.getD k 0)
theorem zi0 (H ns:List Int) : ∀ k,(ze6 H ns k).length=H.length
 | 0=>rfl
 | k+1=>by simp [ze6,yf3,zi0 H ns k]
theorem cut63 {α:Type} (xs:List α) (h:xs.length≤63):cut1 none (some 63) xs=xs:=by
 unfold cut1 ze1
 simp only [List.drop_zero]
 rw [if_neg (by decide),List.take_of_length_le]
 show xs.length≤min 63 xs.length
 lia
noncomputable def zm4:Nat→Option V
 | 0=>none
 | k+1=>some (.w (.int k))
noncomputable def ye9 (ns:List Int):Nat→Option V
 | 0=>none
 | k+1=>some (.w (.int (ns.getD k 0)))
noncomputable abbrev zS5:=stAt p3 19
theorem zF3 {K:Kc} {n:Nat} {σ:List (Addr × O)} {a0:Addr} {fd:FuncData} (hd:K.hd=none) (D:DefAt K "_law_heaps" zS5 a0 fd) (he1:K.mg ("enumerate" : Str)=none) (he2:K.mb ("enumerate" : Str)=some (.type "enumerate"))
  (ns:List Int) (hn:ns.length≤63) :
  Calls K (n+1) "_law_heaps" [.w (.list (ns.map W.int))] σ (.w (.list ((ze6 [13,51,68,24,47,60] ns ns.length).map W.int))) σ:=by
 refine Calls.of D (Pars.ofN (l:=["heaps","place","number"]) rfl (by decide +kernel) (by decide +kernel)) (ρ':=⟨[("script",none),("heaps",none),("place",none),("number",none)],[]⟩) (fun env he=>?_) (.inl rfl)
 show Ex K n env ⟨[("script",some (.w (.list (ns.map W.int)))),("heaps",none),("place",none),("number",none)],[]⟩ _ _ _ _ _
 conv=>arg 6; whnf
 refine Ex.assignN (o:=.list [.int 13,.int 51,.int 68,.int 24,.int 47,.int 60]) (σ₁:=σ) ?_ (fun a=>⟨[("script",some (.w (.list (ns.map W.int)))),("heaps",some (.ref a)),("place",none),("number",none)],[]⟩) (fun a=>by walk_at "setv") fun a=>?_
 ·apply EvN.list
  ·walk_at "go"
  ·decide
 refine Ex.less (ρ₁:=⟨[("script",some (.w (.list (ns.map W.int)))),("heaps",some (.w (.list ((ze6 [13,51,68,24,47,60] ns ns.length).map W.int)))),("place",zm4 ns.length),("number",ye9 ns ns.length)],[]⟩) ?_ (Less.hush _) (List.Sublist.refl _)
 have hlen:(zl5 (ns.map W.int)).length=ns.length:=by rw [zg8,List.length_map]
 refine Ex.cons (ρ₁:=⟨[("script",some (.w (.list (ns.map W.int)))),("heaps",some (.ref a)),("place",zm4 ns.length),("number",ye9 ns ns.length)],[]⟩) (σ₁:=(a,.list ((ze6 [13,51,68,24,47,60] ns ns.length).map W.int))::σ) ?_ ?_
 ·refine Ex1.for (items:=zl5 (ns.map W.int)) (fun k=>⟨[("script",some (.w (.list (ns.map W.int)))),("heaps",some (.ref a)),("place",zm4 k),("number",ye9 ns k)],[]⟩)
   (fun k=>⟨[("script",some (.w (.list (ns.map W.int)))),("heaps",some (.ref a)),("place",some (.w (.int k))),("number",some (.w (.int (ns.getD k 0))))],[]⟩)
   (fun k=>(a,.list ((ze6 [13,51,68,24,47,60] ns k).map W.int))::σ) ?_ (fun _=>rfl) (fun k x hk=>?_) ?_
  ·refine ItN.enumerate hd (za0 he (by kernel_rfl)) he1 he2 ?_
   refine Ev.conv (v:=.w (.list (cut1 none (some 63) (ns.map W.int)))) ?_ (by rw [cut63 _ (by simpa using hn)])
   apply Ev.cutL
   ·walk_at "go"
   ·exact EvO.nil
   ·apply EvO.num; walk_at "go"
   ·exact EvO.nil
   ·exact .inl rfl
  ·have hkl:k<ns.length:=by rw [← hlen]; exact (List.getElem?_eq_some_iff.mp hk).1
   have hx:x = .tuple [.int k,.int (ns.getD k 0)]:=by
    have:=zm6 (xs:=ns.map W.int) (i:=k) (x:=.int (ns.getD k 0)) (by simp [hkl])
    rw [this] at hk; exact (Option.some.inj hk).symm
   subst hx
   refine ⟨?_,.inl ?_⟩
   ·apply Bind.pair hd
    ·walk_at "setv"
    ·walk_at "setv"
   show Ex K n env ⟨[("script",some (.w (.list (ns.map W.int)))),("heaps",some (.ref a)),("place",some (.w (.int k))),("number",some (.w (.int (ns.getD k 0))))],[]⟩ ((a,.list ((ze6 [13,51,68,24,47,60] ns k).map W.int))::σ) _ _ _ _
   have h3:(ze6 [13,51,68,24,47,60] ns k).length=6:=zi0 _ _ _
   have hm:k%6<6:=Nat.mod_lt _ (by decide)
   have hcast:((k:Int)%6).toNat=k%6:=by exact Int.toNat_natCast _
   apply Ex.one
   have hget:((ze6 [13,51,68,24,47,60] ns k).map W.int)[((k:Int)%6).toNat]? = some (.int ((ze6 [13,51,68,24,47,60] ns k).getD (k%6) 0)):=by
    rw [hcast]; simp [h3,hm]
   apply Ex1.setItem (k:=(k:Int)%6) (xs:=(ze6 [13,51,68,24,47,60] ns k).map W.int)
   ·apply Ev.bin
    ·apply Ev.idxR (k:=(k:Int)%6) (xs:=(ze6 [13,51,68,24,47,60] ns k).map W.int)
     ·walk_at "go"
     ·walk_at "go"
     ·walk_at "mem"
     ·exact Int.natCast_nonneg _
     ·exact hget
    ·walk_at "go"
    ·walk_at "go"
   ·walk_at "go"
   ·walk_at "go"
   ·exact ⟨by lia,by rw [hcast,List.length_map,h3]; exact hm⟩
   ·have e:(ze6 [13,51,68,24,47,60] ns (k+1)).map W.int=((ze6 [13,51,68,24,47,60] ns k).map W.int).set ((k:Int)%6).toNat (.int ((ze6 [13,51,68,24,47,60] ns k).getD (k%6) 0+ns.getD k 0%1000000)):=by
     rw [hcast]; simp [ze6,yf3,List.map_set]
    rw [e]
    exact SetO.head
  ·rw [hlen]; exact Ex.nil
 apply Ex.freeze (x := "heaps") (a:=a)
 ·walk_at "mem"
 ·exact DelO.head
 ·walk_at "setv"
 ·(with_reducible apply Ex.one; with_reducible apply Ex1.ret; walk_at "go")
noncomputable def flagNames:List (List Nat):=[L "OPTIMIZED",L "NEWLOCALS",L "VARARGS",L "VARKEYWORDS",L "NESTED",L "GENERATOR",L "NOFREE",L "COROUTINE",L "ITERABLE_COROUTINE",L "ASYNC_GENERATOR"]
noncomputable def zF2 (p:Nat):List Nat:=L "0x" ++ [(L "1248").getD (p%4) 0]++repS (L "0") ((p/4:Nat):Int)
noncomputable def za9 (p:Nat):List Nat:=if p<10 then flagNames.getD p [] else zF2 p
noncomputable def yf4:W→Option W
 | .int i=>some (.str (zF2 i.toNat))
 | _=>none
noncomputable def zz7:List W:=(List.range 15).map fun p=>W.str (za9 p)
noncomputable def nm3 (low:Nat):List W:=[W.str (za9 low),W.str (za9 (low+1)),W.str (za9 (low+2))]
theorem ya4 {α β:Type} (f:α→β) (lo hi:Option Int) (xs:List α):cut1 lo hi (xs.map f)=(cut1 lo hi xs).map f:=by
 unfold cut1; simp [List.map_take,List.map_drop]
theorem ym0 : ∀ low:Fin 13,cut1 (some ((low.val:Nat):Int)) (some (((low.val:Nat):Int)+3)) (List.range 15)=[low.val,low.val+1,low.val+2]:=by decide +kernel
theorem zU0 (low:Nat) (h:low<13):cut1 (some ((low:Nat):Int)) (some (((low:Nat):Int)+3)) zz7=nm3 low:=by
 unfold zz7
 rw [ya4]
 have:=ym0 ⟨low,h⟩
 simp only at this
 rw [this]; rfl
theorem yk6 : ∀ i:Nat,i<5→L "0x" ++ [(L "1248").getD (((10:Int)+i*1).toNat%4) 0]++repS (L "0") (((10:Int)+i*1)/4)=zF2 ((10:Int)+i*1).toNat:=by decide +kernel
theorem yl7 : ∀ i:Nat,i<5→getS (L "1248") (((10:Int)+i*1)%4)=some ((L "1248").getD (((10:Int)+i*1).toNat%4) 0):=by decide +kernel
noncomputable abbrev zQ6:=stAt p3 20
theorem zE6 {K:Kc} {n:Nat} {σ:List (Addr × O)} {a0:Addr} {fd:FuncData} (D:DefAt K "_law_names" zQ6 a0 fd) (hr1:K.mg ("range" : Str)=none) (hr2:K.mb ("range" : Str)=some (.type "range")) (low:Nat) (hlow:low<13) :
  Calls K (n+1) "_law_names" [.w (.int low)] σ (.w (.list (nm3 low))) σ:=by
 refine Calls.of D (Pars.ofN (l:=["names"]) rfl (by decide +kernel) (by decide +kernel)) (ρ':=⟨[("low",some (.w (.int low))),("names",some (.w (.list zz7)))],[]⟩) (fun env he=>?_) (.inl rfl)
 have e:zz7=flagNames.map W.str++(za3 10 1 5).filterMap yf4:=by kernel_rfl
 show Ex K n env ⟨[("low",some (.w (.int low))),("names",none)],[]⟩ _ _ _ _ _
 conv=>arg 6; whnf
 refine Ex.cons (ρ₁:=⟨[("low",some (.w (.int low))),("names",some (.w (.list (flagNames.map W.str))))],[]⟩) (σ₁:=σ) ?_ ?_
 ·apply Ex1.assign (v:=.w (.list (flagNames.map W.str)))
  ·apply Ev.conv
   ·with_reducible apply Ev.list
    ·walk_at "go"
    ·decide +kernel
   ·rfl
  ·walk_at "setv"
 refine Ex.cons (ρ₁:=⟨[("low",some (.w (.int low))),("names",some (.w (.list zz7)))],[]⟩) (σ₁:=σ) ?_ ?_
 ·rw [e]
  apply Ex1.assign (v:=.w (.list (flagNames.map W.str++(za3 10 1 5).filterMap yf4)))
  rotate_left
  ·walk_at "setv"
  with_reducible apply Ev.bin
  ·walk_at "go"
  ·refine Ev.compMap (f:=yf4) (items:=za3 10 1 5) (cs:=[]) ?_ ?_ (by decide +kernel) ?_ (by intro _; rfl)
   ·refine ItN.range2 (a:=10) (b:=15) (σ₁:=σ) (za0 he (by kernel_rfl)) hr1 hr2 ?_ ?_ (by decide) (by decide)
    ·walk_at "go"
    ·walk_at "go"
   ·exact Caps.ofB ["place"] (by kernel_rfl) .nil
   ·intro ce hce y hy
    obtain ⟨i,hi,rfl⟩:=List.mem_map.mp hy
    have hi':i<5:=by simpa using hi
    have z0:(L "0").length=1:=by kernel_rfl
    have z2:(L "0x").length=2:=by kernel_rfl
    refine .inr ⟨_,rfl,TsC.nil,?_⟩
    refine Ev.conv (v:=.w (.str (L "0x" ++ [(L "1248").getD (((10:Int)+i*1).toNat%4) 0]++repS (L "0") (((10:Int)+i*1)/4)))) ?_ (by rw [yk6 i hi'])
    refine Ev.bin (σ₁:=σ) (x:=.str (L "0x" ++ [(L "1248").getD (((10:Int)+i*1).toNat%4) 0])) (y:=.str (repS (L "0") (((10:Int)+i*1)/4))) ?_ ?_ (Opn.addS (by rw [zp2,sizeLine_eq,List.length_append,z0,z2,List.length_singleton]; lia))
    ·refine Ev.bin (σ₁:=σ) (x:=.str (L "0x")) (y:=.str [(L "1248").getD (((10:Int)+i*1).toNat%4) 0]) ?_ ?_ (Opn.addS (by rw [sizeLine_eq,z2,List.length_singleton]; exact Nat.le_add_left _ _))
     ·walk_at "go"
     ·refine Ev.idxS (k:=((10:Int)+i*1)%4) (p:=L "1248") (σ₁:=σ) ?_ ?_ (yl7 i hi')
      ·walk_at "go"
      ·walk_at "go"
    ·refine Ev.bin (σ₁:=σ) (x:=.str (L "0")) (y:=.int (((10:Int)+i*1)/4)) ?_ ?_ (Opn.mulS (by lia) (by exact Int.natCast_nonneg _) (by rw [z0]; lia))
     ·walk_at "go"
     ·with_reducible apply Ev.bin
      ·walk_at "go"
      ·walk_at "go"
      ·exact Opn.divI (by decide) (PyProof.noPylong_small (by exact Nat.le_add_left _ _))
  ·apply Opn.addL
   ·decide +kernel
 with_reducible apply Ex.one
 with_reducible apply Ex1.ret
 rw [← zU0 low hlow]
 apply Ev.cutL (c:=none)
 ·walk_at "go"
 ·apply EvO.num; walk_at "go"
 ·apply EvO.num; walk_at "go"
 ·exact EvO.nil
 ·exact .inl rfl
noncomputable def digL (N c:Nat):List Int:=((N%64:Nat):Int)::(List.range c).map fun i=>(((N/64 ^ (i+1))%64+64:Nat):Int)
theorem zB2 (N c:Nat):digL N (c+1)=digL N c++[(((N/64 ^ (c+1))%64+64:Nat):Int)]:=by simp [digL,List.range_succ]
noncomputable def octL (N c M:Nat):List Int:=((digL N c++if M%2=1 then [64] else []).reverse).map fun x=>x+128*((M/2%2:Nat):Int)
noncomputable def yc1 (M:Nat):W→Option W
 | .int i=>some (.int (i+128*((M/2%2:Nat):Int)))
 | _=>none
noncomputable abbrev yi6:=stAt p3 21
theorem zP6 {K:Kc} {n:Nat} {σ:List (Addr × O)} {a0:Addr} {fd:FuncData} (D:DefAt K "_law_octets" yi6 a0 fd) (N c M:Nat) (h1 : ∀ k,k<c→63<N/64 ^ k) (h2:N/64 ^ c≤63) (hc:c<100) :
  Calls K (n+1) "_law_octets" [.w (.int N),.w (.int M)] σ (.w (.list ((octL N c M).map W.int))) σ:=by
 refine Calls.of D (Pars.ofN (l:=["octets"]) rfl (by decide +kernel) (by decide +kernel)) (ρ':=⟨[("number",none),("manner",none),("octets",none)],[]⟩) (fun env he=>?_) (.inl rfl)
 show Ex K n env ⟨[("number",some (.w (.int N))),("manner",some (.w (.int M))),("octets",none)],[]⟩ _ _ _ _ _
 conv=>arg 6; whnf
 refine Ex.assignN (o:=.list [.int ((N:Int)%64)]) (σ₁:=σ) ?_ (fun a=>⟨[("number",some (.w (.int N))),("manner",some (.w (.int M))),("octets",some (.ref a))],[]⟩) (fun a=>by walk_at "setv") fun a=>?_
 ·with_reducible apply EvN.list
  ·walk_at "go"
  ·show 1≤sizeLine; decide
 refine Ex.less (ρ₁:=⟨[("number",some (.w (.int ((N/64 ^ c:Nat):Int)))),("manner",some (.w (.int M))),("octets",some (.w (.list ((digL N c++if M%2=1 then [64] else []).map W.int))))],[]⟩) ?_ (Less.hush _) (List.Sublist.refl _)
 refine Ex.cons (ρ₁:=⟨[("number",some (.w (.int ((N/64 ^ c:Nat):Int)))),("manner",some (.w (.int M))),("octets",some (.ref a))],[]⟩) (σ₁:=(a,.list ((digL N c).map W.int))::σ) ?_ ?_
 ·refine Ex1.whileFrom (σ₁:=(a,.list ((digL N c).map W.int))::σ) c
   (fun k=>⟨[("number",some (.w (.int ((N/64 ^ k:Nat):Int)))),("manner",some (.w (.int M))),("octets",some (.ref a))],[]⟩)
   (fun k=>(a,.list ((digL N k).map W.int))::σ) (fun k=>(a,.list ((digL N k).map W.int))::σ) (by simp) (by simp [digL]) (fun k hk=>?_) (fun k hk=>?_) ?_ Ex.nil
  ·apply Ts.conv
   ·walk_at "go"
   ·have:=h1 k hk
    generalize N/64 ^ k=x at *
    simp; exact Int.ofNat_lt.mpr ‹_›
  ·have e1:((N/64 ^ (k+1):Nat):Int)=((N/64 ^ k:Nat):Int)/64:=by
    rw [Nat.pow_succ, ← Nat.div_div_eq_div_mul]; trivial
   rw [zB2,List.map_append,e1]
   with_reducible apply Ex.cons
   ·with_reducible apply Ex1.assign
    ·with_reducible apply Ev.bin
     ·walk_at "go"
     ·walk_at "go"
     ·exact Opn.divI (by decide) (PyProof.noPylong_small (by decide))
    ·walk_at "setv"
    ·with_unfolding_all rfl
   with_reducible apply Ex.one
   refine Ex1.expr (v:=.w .none) ?_
   refine Ev.methL (lv:=.ref a) (σ₁:=(a,.list ((digL N k).map W.int))::σ) (σ₂:=(a,.list ((digL N k).map W.int))::σ) (vs:=[.w (.int (((N/64 ^ k:Nat):Int)/64%64+64))]) ?_ (.inr ⟨a,(digL N k).map W.int,rfl,by walk_at "mem"⟩) PySem.F.slot_list_append PySem.F.type_list_append ?_ ?_
   ·walk_at "go"
   ·walk_at "go"
   ·refine Fn.append (xs:=(digL N k).map W.int) ?_ (by simp [digL,sizeLine_eq]; lia)
    have e2:(((N/64 ^ (k+1))%64+64:Nat):Int)=((N/64 ^ k:Nat):Int)/64%64+64:=by
     rw [← e1]; push_cast; trivial
    rw [e2]
    exact SetO.head
  ·apply Ts.conv
   ·walk_at "go"
   ·generalize N/64 ^ c=x at *
    simp; lia
 refine Ex.cons (ρ₁:=⟨[("number",some (.w (.int ((N/64 ^ c:Nat):Int)))),("manner",some (.w (.int M))),("octets",some (.ref a))],[]⟩) (σ₁:=(a,.list ((digL N c++if M%2=1 then [64] else []).map W.int))::σ) ?_ ?_
 ·by_cases hM:M%2=1
  ·rw [if_pos hM,List.map_append]
   apply Ex1.iteT
   ·walk_at "go"
   ·simp; lia
   ·with_reducible apply Ex.one
    refine Ex1.expr (v:=.w .none) ?_
    refine Ev.methL (lv:=.ref a) (σ₁:=(a,.list ((digL N c).map W.int))::σ) (σ₂:=(a,.list ((digL N c).map W.int))::σ) (vs:=[.w (.int 64)]) ?_ (.inr ⟨a,(digL N c).map W.int,rfl,by walk_at "mem"⟩) PySem.F.slot_list_append PySem.F.type_list_append ?_ ?_
    ·walk_at "go"
    ·walk_at "go"
    ·exact Fn.append (xs:=(digL N c).map W.int) SetO.head (by simp [digL,sizeLine_eq]; exact Nat.lt_of_le_of_lt ‹_› (by decide))
  ·rw [if_neg hM,List.append_nil]
   apply Ex1.iteF
   ·walk_at "go"
   ·simp; lia
   ·exact Ex.nil
 generalize hX:(digL N c++if M%2=1 then [64] else [])=X
 have hXl:X.length≤200:=by rw [← hX]; split <;> simp [digL] <;> lia
 apply Ex.freeze (x := "octets") (a:=a)
 ·walk_at "mem"
 ·exact DelO.head
 ·walk_at "setv"
 with_reducible apply Ex.one
 with_reducible apply Ex1.ret
 have eo:(octL N c M).map W.int=(X.map W.int).reverse.filterMap (yc1 M):=by
  unfold octL; rw [hX, ← List.map_reverse,List.filterMap_map,List.map_map]
  rw [← List.filterMap_eq_map]
  rfl
 rw [eo]
 refine Ev.compMap (f:=yc1 M) (items:=(X.map W.int).reverse) (cs:=[("manner",.w (.int M))]) ?_ ?_ (by rw [sizeLine_eq]; simp; exact Nat.le_trans ‹_› (by decide)) ?_ (by intro _; rfl)
 ·apply ItN.list
  apply Ev.revL
  ·walk_at "go"
  ·exact EvO.nil
  ·exact EvO.nil
  ·apply EvO.num
   apply Ev.neg
   walk_at "go"
 ·exact Caps.ofB ["octet"] (by kernel_rfl) (.cell (za0 he (by kernel_rfl)) (by walk_at "mem") .nil)
 ·intro ce hce y hy
  (refine obEA (List.mem_map.mp (List.mem_reverse.mp hy)) fun i hi zq2=>?_; subst zq2)
  refine .inr ⟨_,rfl,TsC.nil,?_⟩
  refine Ev.conv (v:=.w (.int (i+128*((M:Int)/2%2)))) ?_ (by push_cast; rfl)
  with_reducible apply Ev.bin
  ·walk_at "go"
  ·with_reducible apply Ev.bin
   ·walk_at "go"
   ·with_reducible apply Ev.bin
    ·with_reducible apply Ev.bin
     ·walk_at "go"
     ·walk_at "go"
     ·exact Opn.divI (by decide) (PyProof.noPylong_small (by decide))
    ·walk_at "go"
    ·walk_at "go"
   ·refine Opn.mulI ?_
    exact IntMulOk.of_left (by decide +kernel)
  ·walk_at "go"
noncomputable def zK8:List Stmt→List Stmt
 | []=>[]
 | s::r=>match (stV s).loop with
  | true=>(stV s).body
  | false=>zK8 r
noncomputable def zm5 (i:Int):Option (List Nat):=(List.range 10).findSome? fun p=>if i=2 ^ p then some (flagNames.getD p []) else none
noncomputable def hexS (i:Nat):List Nat:=(baseText "0x" 16 i).cps.toList
noncomputable def zi7 (p:Nat):List Nat:=(zm5 (((2:Nat) ^ p:Nat):Int)).getD (hexS (2 ^ p))
noncomputable def words (F:Nat):Nat→List (List Nat)
 | 0=>[]
 | k+1=>words F k++if F.testBit k then [zi7 k] else []
noncomputable def left (F:Nat) (k:Nat):Nat:=F/2 ^ k*2 ^ k
noncomputable def zc4 (F:Nat):List (List Nat):=words F 32++if left F 32=0∧F≠0 then [] else [hexS (left F 32)]
noncomputable def zz0 (F:Nat):List Nat:=zb7 (L ", ") (zc4 F)
theorem yg9 (x i:Nat):x &&& 2 ^ i=if x.testBit i then 2 ^ i else 0:=by
 apply Nat.eq_of_testBit_eq
 intro j
 rw [Nat.testBit_and,Nat.testBit_two_pow]
 by_cases h:i=j
 ·subst h
  cases hx:x.testBit i <;> simp [Nat.testBit_two_pow]
 ·cases hx:x.testBit i <;> simp [h,Nat.testBit_two_pow]
theorem zY3 (F k:Nat):(left F k).testBit k=F.testBit k:=by
 rw [Nat.testBit_eq_decide_div_mod_eq,Nat.testBit_eq_decide_div_mod_eq]
 unfold left
 rw [Nat.mul_div_cancel _ (Nat.two_pow_pos k)]
theorem zl2 (F k:Nat):left F (k+1)+(if F.testBit k then 2 ^ k else 0)=left F k:=by
 unfold left
 rw [Nat.testBit_eq_decide_div_mod_eq,Nat.pow_succ, ← Nat.div_div_eq_div_mul]
 generalize F/2 ^ k=q
 generalize 2 ^ k=p
 have h:q=q/2*2+q%2:=by lia
 have e:q/2*(p*2)=q/2*2*p:=by rw [Nat.mul_comm p 2,Nat.mul_assoc]
 rw [e]
 by_cases hq:q%2=1
 ·simp only [hq,decide_true,if_true]
  conv=>rhs; rw [h,hq,Nat.add_mul,Nat.one_mul]
 ·have:q%2=0:=by lia
  simp only [hq,decide_false,Bool.false_eq_true,if_false,Nat.add_zero]
  conv=>rhs; rw [h,this,Nat.add_zero]
theorem zm8 (F k:Nat):Builtin.bitAnd ((left F k:Nat):Int) (((2 ^ k:Nat):Nat):Int)=((if F.testBit k then 2 ^ k else 0:Nat):Int):=by
 rw [bitAnd_pp (Int.natCast_nonneg _) (Int.natCast_nonneg _)]
 simp only [Int.toNat_natCast]
 rw [yg9,zY3]
theorem zM6 (F k:Nat) (h:F.testBit k=true):Builtin.bitXor ((left F k:Nat):Int) (((2 ^ k:Nat):Nat):Int)=((left F (k+1):Nat):Int):=by
 show Builtin.bitOr _ _ - Builtin.bitAnd _ _=_
 rw [bitOr_and,zm8,if_pos h]
 have:=zl2 F k
 rw [if_pos h] at this
 lia
theorem zh2 (F:Nat) : ∀ k,(words F k).length≤k
 | 0=>Nat.le_refl 0
 | k+1=>by
  have:=zh2 F k
  unfold words
  rw [List.length_append]
  split <;> simp <;> omega
theorem zS4 : ∀ i,i<32→(hexS (2 ^ i)).length≤sizeLine:=by
 have : ∀ i,i<32→(hexS (2 ^ i)).length≤20:=by decide +kernel
 intro i hi
 rw [sizeLine_eq]; have:=this i hi; omega
noncomputable abbrev zi3:=stAt p3 8
theorem zj9 {K:Kc} {n:Nat} {σ:List (Addr × O)} {d:Addr} {fv:Int→Option Value} (T:TabI K "COMPILER_FLAG_NAMES" zm5 d fv) (hx1:K.mg ("hex" : Str)=none) (hx2:K.mb ("hex" : Str)=some (.builtin "hex"))
  (env:Env) (he:env.scope=za4 zi3) (a:Addr) (F i:Nat) (hi:i<32) (fl:Option V) :
  Ex K n env ⟨[("flags",some (.w (.int (left F i:Nat)))),("names",some (.ref a)),("i",some (.w (.int i))),("flag",fl)],[]⟩ ((a,.list ((words F i).map W.str))::σ) (zK8 (zb6 zi3))
   (if F.testBit i=true∧left F (i+1)=0 then .brk else .next)
   ⟨[("flags",some (.w (.int (left F (i+1):Nat)))),("names",some (.ref a)),("i",some (.w (.int i))),("flag",some (.w (.int ((2 ^ i:Nat):Int))))],[]⟩ ((a,.list ((words F (i+1)).map W.str))::σ):=by
 conv=>arg 6; whnf
 with_reducible apply Ex.cons
 ·with_reducible apply Ex1.assign
  ·apply Ev.conv (v':=.w (.int ((2 ^ i:Nat):Int)))
   ·with_reducible apply Ev.bin
    ·walk_at "go"
    ·walk_at "go"
    ·exact Opn.shlI (by exact Int.natCast_nonneg _) (by rw [(by kernel_rfl:Builtin.Int.intBits 1=1)]; omega)
   ·simp
  ·walk_at "setv"
  ·with_unfolding_all rfl
 with_reducible apply Ex.one
 by_cases hb:F.testBit i=true
 ·have hw:(words F (i+1)).map W.str=(words F i).map W.str++[.str (zi7 i)]:=by simp [words,hb]
  rw [hw]
  apply Ex1.iteT
  ·apply Ts.val
   ·walk_at "go"
   ·rw [zm8,if_pos hb]; rfl
   ·with_unfolding_all (intro _; rfl)
  ·have:(((2 ^ i:Nat):Nat):Int)≠0:=by have:=Nat.two_pow_pos i; lia
   simp only [this,decide_false,Bool.not_false]
  with_reducible apply Ex.cons
  ·apply Ex1.expr (v:=.w .none)
   refine Ev.methL (lv:=.ref a) (σ₁:=(a,.list ((words F i).map W.str))::σ) (σ₂:=(a,.list ((words F i).map W.str))::σ) (vs:=[.w (.str (zi7 i))]) ?_ (.inr ⟨a,(words F i).map W.str,rfl,by walk_at "mem"⟩) PySem.F.slot_list_append PySem.F.type_list_append ?_ (Fn.append (xs:=(words F i).map W.str) SetO.head (by have:=zh2 F i; simp only [List.length_map]; rw [sizeLine_eq]; lia))
   ·walk_at "go"
   ·apply Evs.cons
    ·apply Ev.dictGet T
     ·exact za0 he (by kernel_rfl)
     ·walk_at "go"
     ·apply Ev.callB
      ·exact za0 he (by kernel_rfl)
      ·exact hx1
      ·exact hx2
      ·exact .builtin _
      ·walk_at "go"
      ·exact Fn.hex (q:=hexS (2 ^ i)) (by simp [hexS]) (zS4 i hi)
      all_goals walk_at "auto"
     all_goals walk_at "auto"
    ·walk_at "go"
    all_goals walk_at "auto"
  with_reducible apply Ex.cons
  ·apply Ex1.aug
   ·walk_at "mem"
   ·walk_at "go"
   ·exact Opn.ixorI
   ·rw [zM6 F i hb]
    walk_at "setv"
  with_reducible apply Ex.one
  by_cases hl:left F (i+1)=0
  ·rw [if_pos ⟨hb,hl⟩]
   apply Ex1.iteT
   ·apply Ts.not
    apply Ts.val
    ·walk_at "go"
    ·rfl
    ·with_unfolding_all (intro _; rfl)
   ·simp [hl]
   ·with_reducible apply Ex.one
    exact Ex1.brk
  ·rw [if_neg (fun h=>hl h.2)]
   apply Ex1.iteF
   ·apply Ts.not
    apply Ts.val
    ·walk_at "go"
    ·rfl
    ·with_unfolding_all (intro _; rfl)
   ·have:((left F (i+1):Nat):Int)≠0:=by lia
    simp [hl]
   ·exact Ex.nil
 ·have hw:words F (i+1)=words F i:=by simp [words,hb]
  have hl:left F (i+1)=left F i:=by have:=zl2 F i; rw [if_neg hb] at this; assumption
  rw [hw,hl,if_neg (fun h=>hb h.1)]
  apply Ex1.iteF
  ·apply Ts.val
   ·walk_at "go"
   ·rw [zm8,if_neg hb]; rfl
   ·with_unfolding_all (intro _; rfl)
  ·rfl
  ·exact Ex.nil
theorem zV6 (F:Nat) : ∀ k m,k≤m→left F k=0→words F m=words F k:=by
 intro k m hkm h0
 induction m with
 | zero =>
  have:k=0:=by exact Nat.eq_zero_of_le_zero ‹_›
  rw [this]
 | succ m ih =>
  by_cases h:k≤m
  ·have hm:left F m=0:=by
    have:F<2 ^ k:=by
     unfold left at h0
     rcases Nat.mul_eq_zero.mp h0 with h | h
     ·exact (Nat.div_eq_zero_iff_lt (Nat.two_pow_pos k)).mp h
     ·have:=Nat.two_pow_pos k; lia
    have h2:F<2 ^ m:=Nat.lt_of_lt_of_le this (Nat.pow_le_pow_right (by decide) h)
    unfold left; rw [Nat.div_eq_of_lt h2,Nat.zero_mul]
   have hb:F.testBit m=false:=by
    cases hb:F.testBit m with
    | false=>rfl
    | true =>
     have:=zl2 F m
     rw [if_pos hb,hm] at this
     have:=Nat.two_pow_pos m; lia
   rw [← ih h]
   show words F m++(if F.testBit m=true then [zi7 m] else [])=words F m
   simp [hb]
  ·have:k=m+1:=by lia
   rw [this]
noncomputable def yk0:Nat→Option V
 | 0=>none
 | k+1=>some (.w (.int k))
noncomputable def zp9:Nat→Option V
 | 0=>none
 | k+1=>some (.w (.int ((2 ^ k:Nat):Int)))
noncomputable def flV (F:Nat):Nat→Nat
 | 0=>F
 | k+1=>left F (k+1)
theorem zI0 (F:Nat) : ∀ k,flV F k=left F k
 | 0=>by simp [flV,left]
 | k+1=>rfl
theorem zu3 (F:Nat) (h0:left F 0≠0) : ∀ m,left F m=0→∃ j,j<m∧left F j≠0∧left F (j+1)=0
 | 0,h=>absurd h h0
 | m+1,h=>by
  by_cases hm:left F m=0
  ·refine zd4 (zu3 F h0 m hm) fun j h1 h2 h3=>?_
   exact ⟨j,by exact Nat.le_succ_of_le ‹_›,h2,h3⟩
  ·exact ⟨m,by exact Nat.lt_succ_self _,hm,h⟩
theorem yj6 {a b c d:Option V}:Less ⟨[("flags",a),("names",b),("i",c),("flag",d)],[]⟩ ⟨[("flags",none),("names",b),("i",none),("flag",none)],[]⟩ :=
 .skip (.keep (.skip (.skip (.refl _))))
noncomputable abbrev ye1 (l:List Stmt):Stmt:=l.getD 1 (.Pass ⟨0,0,0,0⟩)
theorem zy8 {k:Nat} {x:W} (hk:(za3 0 1 (32:Int).toNat)[k]? = some x):k<32∧x = .int (k:Nat):=by
 have h1:k<(za3 0 1 (32:Int).toNat).length:=(List.getElem?_eq_some_iff.mp hk).1
 rw [za1] at h1
 have h2:k<32:=h1
 refine ⟨h2,?_⟩
 simp [za3,h2] at hk
 exact hk.symm
theorem zD6 {K:Kc} {n:Nat} {σ:List (Addr × O)} {d:Addr} {fv:Int→Option Value} (T:TabI K "COMPILER_FLAG_NAMES" zm5 d fv) (hx1:K.mg ("hex" : Str)=none) (hx2:K.mb ("hex" : Str)=some (.builtin "hex"))
  (hr1:K.mg ("range" : Str)=none) (hr2:K.mb ("range" : Str)=some (.type "range")) (env:Env) (he:env.scope=za4 zi3) (a:Addr) (F:Nat) (hno : ∀ k,k<32→¬ (F.testBit k=true∧left F (k+1)=0))
  (w32:List (List Nat)) (l32:Nat) (hw:words F 32=w32) (hl:left F 32=l32) (hz:(hexS l32).length≤100) (hwl:w32.length≤32) :
  Ex1 K n env ⟨[("flags",some (.w (.int F))),("names",some (.ref a)),("i",none),("flag",none)],[]⟩ ((a,.list [])::σ) (ye1 (zb6 zi3)) .next ⟨[("flags",none),("names",some (.ref a)),("i",none),("flag",none)],[]⟩ ((a,.list (w32.map W.str++[.str (hexS l32)]))::σ):=by
 conv=>arg 6; whnf
 refine Ex1.less (ρ₁:=⟨[("flags",some (.w (.int (l32:Nat)))),("names",some (.ref a)),("i",some (.w (.int (31:Nat)))),("flag",some (.w (.int ((2 ^ 31:Nat):Int))))],[]⟩) (σ₁:=(a,.list (w32.map W.str++[.str (hexS l32)]))::σ) ?_ yj6 (List.Sublist.refl _)
 refine Ex1.for (items:=za3 0 1 (32:Int).toNat) (fun k=>⟨[("flags",some (.w (.int (flV F k:Nat)))),("names",some (.ref a)),("i",yk0 k),("flag",zp9 k)],[]⟩)
  (fun k=>⟨[("flags",some (.w (.int (flV F k:Nat)))),("names",some (.ref a)),("i",some (.w (.int k))),("flag",zp9 k)],[]⟩)
  (fun k=>(a,.list ((words F k).map W.str))::σ) ?_ (fun _=>rfl) (fun k x hx=>?_) ?_
 ·refine ItN.range1 (b:=32) (za0 he (by kernel_rfl)) hr1 hr2 ?_ (by decide)
  exact Ev.cint
 ·(have zq:=zy8 hx; have hk32:=zq.1; have zq1:=zq.2; subst zq1)
  refine ⟨?_,.inl ?_⟩
  ·apply Bind.name
   walk_at "setv"
  ·have:=zj9 T hx1 hx2 env he a F k hk32 (zp9 k) (n:=n) (σ:=σ)
   rw [if_neg (hno k hk32)] at this
   rw [zI0]
   exact this
 ·rw [za1,zI0]
  have e32:(32:Int).toNat=32:=rfl
  rw [e32,hw,hl]
  show Ex K n env ⟨[("flags",some (.w (.int (l32:Nat)))),("names",some (.ref a)),("i",some (.w (.int (31:Nat)))),("flag",some (.w (.int ((2 ^ 31:Nat):Int))))],[]⟩ ((a,.list (w32.map W.str))::σ) _ _ _ _
  with_reducible apply Ex.one
  apply Ex1.expr (v:=.w .none)
  refine Ev.methL (lv:=.ref a) (σ₁:=(a,.list (w32.map W.str))::σ) (σ₂:=(a,.list (w32.map W.str))::σ) (vs:=[.w (.str (hexS l32))]) ?_ (.inr ⟨a,w32.map W.str,rfl,by walk_at "mem"⟩) PySem.F.slot_list_append PySem.F.type_list_append ?_ (Fn.append (xs:=w32.map W.str) SetO.head (by simp only [List.length_map]; rw [sizeLine_eq]; lia))
  ·walk_at "go"
  ·apply Evs.cons
   ·apply Ev.callB
    ·exact za0 he (by kernel_rfl)
    ·exact hx1
    ·exact hx2
    ·exact .builtin _
    ·walk_at "go"
    ·exact Fn.hex (q:=hexS l32) (by simp [hexS]) (by rw [sizeLine_eq]; lia)
    all_goals walk_at "auto"
   ·walk_at "go"
   all_goals walk_at "auto"
theorem zy9 {K:Kc} {n:Nat} {σ:List (Addr × O)} {a0:Addr} {fd:FuncData} {d:Addr} {fv:Int→Option Value} (D:DefAt K "pretty_flags" zi3 a0 fd) (T:TabI K "COMPILER_FLAG_NAMES" zm5 d fv) (hx1:K.mg ("hex" : Str)=none) (hx2:K.mb ("hex" : Str)=some (.builtin "hex"))
  (hr1:K.mg ("range" : Str)=none) (hr2:K.mb ("range" : Str)=some (.type "range")) (F:Nat) (hz:(hexS (left F 32)).length≤100) (hsum:((zc4 F).map (·.length)).sum+(zc4 F).length*2≤16777216) :
  Calls K (n+1) "pretty_flags" [.w (.int F)] σ (.w (.str (zz0 F))) σ:=by
 refine Calls.of D (Pars.ofN (l:=["names","i","flag"]) rfl (by decide +kernel) (by decide +kernel)) (ρ':=⟨[("flags",none),("names",none),("i",none),("flag",none)],[]⟩) (fun env he=>?_) (.inl rfl)
 show Ex K n env ⟨[("flags",some (.w (.int F))),("names",none),("i",none),("flag",none)],[]⟩ _ _ _ _ _
 conv=>arg 6; whnf
 refine Ex.assignN (o:=.list []) (σ₁:=σ) ?_ (fun a=>⟨[("flags",some (.w (.int F))),("names",some (.ref a)),("i",none),("flag",none)],[]⟩) (fun a=>by walk_at "setv") fun a=>?_
 ·with_reducible apply EvN.list
  ·walk_at "go"
  ·decide
 have l0:left F 0=F:=by simp [left]
 have left_zero : ∀ k m,k≤m→left F k=0→left F m=0:=fun k m hkm h0=>by
  have:F<2 ^ k:=by
   unfold left at h0
   rcases Nat.mul_eq_zero.mp h0 with h | h
   ·exact (Nat.div_eq_zero_iff_lt (Nat.two_pow_pos k)).mp h
   ·have:=Nat.two_pow_pos k; lia
  have h2:F<2 ^ m:=Nat.lt_of_lt_of_le this (Nat.pow_le_pow_right (by decide) hkm)
  unfold left; rw [Nat.div_eq_of_lt h2,Nat.zero_mul]
 have hItem : ∀ k x,(za3 0 1 (32:Int).toNat)[k]? = some x→k<32∧x = .int (k:Nat):=fun k x hk=>by
  have h1:k<(za3 0 1 (32:Int).toNat).length:=(List.getElem?_eq_some_iff.mp hk).1
  rw [za1] at h1
  have h2:k<32:=h1
  refine ⟨h2,?_⟩
  simp [za3,h2] at hk
  exact hk.symm
 refine Ex.cons (ρ₁:=⟨[("flags",none),("names",some (.ref a)),("i",none),("flag",none)],[]⟩) (σ₁:=(a,.list ((zc4 F).map W.str))::σ) ?_ ?_
 ·by_cases hA:left F 32=0∧F≠0
  ·refine zd4 (zu3 F (by rw [l0]; exact hA.2) 32 hA.1) fun j hj hj1 hj2=>?_
   have hbit:F.testBit j=true:=by
    cases hb:F.testBit j with
    | true=>rfl
    | false =>
     have:=zl2 F j
     rw [if_neg (by rw [hb]; decide),hj2] at this
     exact absurd this.symm hj1
   have hpl:zc4 F=words F (j+1):=by
    unfold zc4
    rw [if_pos hA,List.append_nil,zV6 F (j+1) 32 (by lia) hj2]
   rw [hpl]
   refine Ex1.less (ρ₁:=⟨[("flags",some (.w (.int (left F (j+1):Nat)))),("names",some (.ref a)),("i",some (.w (.int j))),("flag",some (.w (.int ((2 ^ j:Nat):Int))))],[]⟩) (σ₁:=(a,.list ((words F (j+1)).map W.str))::σ) ?_ yj6 (List.Sublist.refl _)
   refine Ex1.forExit (j:=j) (items:=za3 0 1 (32:Int).toNat) (fun k=>⟨[("flags",some (.w (.int (flV F k:Nat)))),("names",some (.ref a)),("i",yk0 k),("flag",zp9 k)],[]⟩)
    (fun k=>⟨[("flags",some (.w (.int (flV F k:Nat)))),("names",some (.ref a)),("i",some (.w (.int k))),("flag",zp9 k)],[]⟩)
    (fun k=>(a,.list ((words F k).map W.str))::σ) ?_ (fun _=>rfl) (by rw [za1]; exact hj) (fun k x hk hx=>?_) (fun x hx=>?_)
   ·refine ItN.range1 (b:=32) (za0 he (by kernel_rfl)) hr1 hr2 ?_ (by decide)
    exact Ev.cint
   ·(have zq:=hItem k x hx; have hk32:=zq.1; have zq1:=zq.2; subst zq1)
    refine ⟨?_,.inl ?_⟩
    ·apply Bind.name
     walk_at "setv"
    ·have:=zj9 T hx1 hx2 env he a F k hk32 (zp9 k) (n:=n) (σ:=σ)
     rw [if_neg (fun h=>by
      have:=left_zero (k+1) j (by lia) h.2
      exact hj1 this)] at this
     rw [zI0]
     exact this
   ·(have zq:=hItem j x hx; have hk32:=zq.1; have zq1:=zq.2; subst zq1)
    refine ⟨?_,.inl ⟨?_,rfl⟩⟩
    ·apply Bind.name
     walk_at "setv"
    ·have:=zj9 T hx1 hx2 env he a F j hj (zp9 j) (n:=n) (σ:=σ)
     rw [if_pos ⟨hbit,hj2⟩] at this
     rw [zI0]
     exact this
  ·have hpl:(zc4 F).map W.str=(words F 32).map W.str++[.str (hexS (left F 32))]:=by
    unfold zc4
    rw [if_neg hA,List.map_append,List.map_cons,List.map_nil]
   have hno : ∀ k,k<32→¬ (F.testBit k=true∧left F (k+1)=0):=fun k hk h=>by
    have h32:=left_zero (k+1) 32 (by lia) h.2
    refine hA ⟨h32,fun hF=>?_⟩
    rw [hF] at h
    simp at h
   rw [hpl]
   have hwl:=zh2 F 32
   exact zD6 T hx1 hx2 hr1 hr2 env he a F hno _ _ rfl rfl hz hwl
 apply Ex.freeze (x := "names") (a:=a)
 ·walk_at "mem"
 ·exact DelO.head
 ·walk_at "setv"
 refine Ex.less ?_ (Less.hush ⟨[("flags",none),("names",some (.w (.list ((zc4 F).map W.str)))),("i",none),("flag",none)],[]⟩) (List.Sublist.refl _)
 with_reducible apply Ex.one
 with_reducible apply Ex1.ret
 refine Ev.methS (q:=L ", ") (σ₁:=σ) (σ₂:=σ) (vs:=[.w (.list ((zc4 F).map W.str))]) ?_ PySem.F.slot_str_join PySem.F.type_str_join ?_ (Fn.join ?_)
 ·walk_at "go"
 ·walk_at "go"
 ·have:(L ", ").length=2:=by kernel_rfl
  rw [this]; exact hsum
noncomputable def zq9 (s:Stmt):List Stmt:=(stV s).body
noncomputable def zH8 (s:Stmt):Expr:=(stV s).test
noncomputable abbrev stD:Stmt:=.Pass ⟨0,0,0,0⟩
noncomputable abbrev nU3:List (Str × Option V):=[("pre",none),("post",none),("row",none),("result",none),("bindex",none),("bchar",none),("distance",none),("minimum",none),("index",none),("substitute",none),("insert_delete",none)]
noncomputable abbrev nU4:List (Str × Option V):=[("post",none),("row",none),("result",none),("bindex",none),("bchar",none),("distance",none),("minimum",none),("index",none),("substitute",none),("insert_delete",none)]
noncomputable abbrev nU5:List (Str × Option V):=[("row",none),("result",none),("bindex",none),("bchar",none),("distance",none),("minimum",none),("index",none),("substitute",none),("insert_delete",none)]
noncomputable abbrev nU6:List (Str × Option V):=[("result",none),("bindex",none),("bchar",none),("distance",none),("minimum",none),("index",none),("substitute",none),("insert_delete",none)]
noncomputable abbrev nU7:List (Str × Option V):=[("bindex",none),("bchar",none),("distance",none),("minimum",none),("index",none),("substitute",none),("insert_delete",none)]
noncomputable abbrev nU8:List (Str × Option V):=[("bchar",none),("distance",none),("minimum",none),("index",none),("substitute",none),("insert_delete",none)]
noncomputable abbrev nU11:List (Str × Option V):=[("index",none),("substitute",none),("insert_delete",none)]
noncomputable abbrev nU12:List (Str × Option V):=[("substitute",none),("insert_delete",none)]
noncomputable abbrev zg6:=stAt p3 17
noncomputable abbrev zY2:Stmt:=(zq9 ((zb6 zg6).getD 15 stD)).getD 3 stD
structure LevK (K:Kc) (n:Nat):Prop where
 hd:K.hd=none
 sub : ∀ p q:Nat,p<128→q<128→∀ σ,Calls K n "_substitution_cost" [.w (.str [p]),.w (.str [q])] σ (.w (.int (subC p q))) σ
 mv : ∃ t,K.mg "_MOVE_COST" = some (.int 2 t)
 mx : ∃ t,K.mg "_MAX_STRING_SIZE" = some (.int 40 t)
 len1:K.mg ("len" : Str)=none
 len2:K.mb ("len" : Str)=some (.builtin "len")
 min1:K.mg ("min" : Str)=none
 min2:K.mb ("min" : Str)=some (.builtin "min")
 range1:K.mg ("range" : Str)=none
 range2:K.mb ("range" : Str)=some (.type "range")
 list1:K.mg ("list" : Str)=none
 list2:K.mb ("list" : Str)=some (.type "list")
section
variable {K:Kc} {n:Nat} {σ:List (Addr × O)} {env:Env}
theorem zR8 (hl:LevK K n) (he:env.scope=za4 zg6) (x y:List Nat) (mc:Int) (pv qv:Option V) (r:Addr) (row:List Int) (bc bi:Nat) (hx:x.length≤40) (hcx : ∀ c∈x,c<128) (hbc:bc<128) (hrow:row.length=x.length) :
  Ex1 K n env ⟨("a",some (.w (.str x)))::("b",some (.w (.str y)))::("max_cost",some (.w (.int mc)))::("pre",pv)::("post",qv)::("row",some (.ref r))::("result",some (.w (.int (lvIn bc x row bi 0).r)))::("bindex",some (.w (.int bi)))::("bchar",some (.w (.str [bc])))::("distance",some (.w (.int (lvIn bc x row bi 0).d)))::("minimum",some (.w (.int (lvIn bc x row bi 0).m)))::nU11,[]⟩
   ((r,.list ((lvIn bc x row bi 0).row.map W.int))::σ) zY2 .next
   ⟨("a",some (.w (.str x)))::("b",some (.w (.str y)))::("max_cost",some (.w (.int mc)))::("pre",pv)::("post",qv)::("row",some (.ref r))::("result",some (.w (.int (lvIn bc x row bi x.length).r)))::("bindex",some (.w (.int bi)))::("bchar",some (.w (.str [bc])))::("distance",some (.w (.int (lvIn bc x row bi x.length).d)))::("minimum",some (.w (.int (lvIn bc x row bi x.length).m)))::nU11,[]⟩
   ((r,.list ((lvIn bc x row bi x.length).row.map W.int))::σ):=by
 obtain ⟨hd,hsub,hM,hX,l1,l2,m1,m2,r1,r2,li1,li2⟩:=hl
 conv=>arg 6; whnf
 have hlen:(za3 0 1 x.length).length=x.length:=za1 _ _ _
 generalize hN:x.length=N at hlen ⊢
 refine Ex1.for (items:=za3 0 1 N) (fun k=>⟨("a",some (.w (.str x)))::("b",some (.w (.str y)))::("max_cost",some (.w (.int mc)))::("pre",pv)::("post",qv)::("row",some (.ref r))::("result",some (.w (.int (lvIn bc x row bi k).r)))::("bindex",some (.w (.int bi)))::("bchar",some (.w (.str [bc])))::("distance",some (.w (.int (lvIn bc x row bi k).d)))::("minimum",some (.w (.int (lvIn bc x row bi k).m)))::nU11,[]⟩)
   (fun k=>⟨("a",some (.w (.str x)))::("b",some (.w (.str y)))::("max_cost",some (.w (.int mc)))::("pre",pv)::("post",qv)::("row",some (.ref r))::("result",some (.w (.int (lvIn bc x row bi k).r)))::("bindex",some (.w (.int bi)))::("bchar",some (.w (.str [bc])))::("distance",some (.w (.int (lvIn bc x row bi k).d)))::("minimum",some (.w (.int (lvIn bc x row bi k).m)))::("index",some (.w (.int k)))::nU12,[]⟩)
   (fun k=>(r,.list ((lvIn bc x row bi k).row.map W.int))::σ) ?_ (fun _=>rfl) (fun k w hk=>?_) ?_
 ·subst hN
  apply ItN.range1N
  ·exact za0 he (by kernel_rfl)
  ·with_reducible assumption
  ·with_reducible assumption
  ·exact Ev.len (za0 he (by kernel_rfl)) (by with_reducible assumption) (by with_reducible assumption) (by walk_at "mem") (by kernel_rfl)
  ·exact Nat.lt_of_le_of_lt ‹_› (by decide)
  all_goals walk_at "auto"
 ·(have zq:=zb1 hk; have hkl:=zq.1; have zq1:=zq.2; subst zq1)
  refine ⟨?_,.inl ?_⟩
  ·apply Bind.name
   walk_at "setv"
  have hR:(lvIn bc x row bi k).row.length=N:=by rw [zw0]; lia
  show Ex K n env ⟨("a",some (.w (.str x)))::("b",some (.w (.str y)))::("max_cost",some (.w (.int mc)))::("pre",pv)::("post",qv)::("row",some (.ref r))::("result",some (.w (.int (lvIn bc x row bi k).r)))::("bindex",some (.w (.int bi)))::("bchar",some (.w (.str [bc])))::("distance",some (.w (.int (lvIn bc x row bi k).d)))::("minimum",some (.w (.int (lvIn bc x row bi k).m)))::("index",some (.w (.int k)))::nU12,[]⟩ ((r,.list ((lvIn bc x row bi k).row.map W.int))::σ) _ _ _ _
  have e1:lvIn bc x row bi (k+1)=zh8 bc x (lvIn bc x row bi k) k:=rfl
  rw [e1]
  generalize lvIn bc x row bi k=t at hR ⊢
  obtain ⟨d,rr,m,row'⟩:=t
  dsimp only at hR ⊢
  have hxk:x[k]? = some (x.getD k 0):=by simp [List.getElem?_eq_getElem (show k<x.length by lia),List.getD]
  have hc1:x.getD k 0<128:=hcx _ (List.mem_of_getElem? hxk)
  have hrk:(row'.map W.int)[((k:Int)).toNat]? = some (.int (row'.getD k 0)):=by
   simp [List.getElem?_eq_getElem (show k<row'.length by lia),List.getD]
  have f1:(zh8 bc x ⟨d,rr,m,row'⟩ k).r=min (min rr (row'.getD k 0)+2) (d+subC bc (x.getD k 0)):=rfl
  have f2:(zh8 bc x ⟨d,rr,m,row'⟩ k).d=row'.getD k 0:=rfl
  have f3:(zh8 bc x ⟨d,rr,m,row'⟩ k).row=row'.set k (min (min rr (row'.getD k 0)+2) (d+subC bc (x.getD k 0))):=rfl
  rw [f1,f2,f3]
  apply Ex.less
  ·with_reducible apply Ex.cons
   ·with_reducible apply Ex1.assign
    ·with_reducible apply Ev.bin
     ·walk_at "go"
     ·with_reducible apply Ev.callG
      ·exact za0 he (by kernel_rfl)
      ·with_reducible apply Evs.cons
       ·walk_at "go"
       ·with_reducible apply Evs.cons
        ·with_reducible apply Ev.idxS (k:=(k:Int)) (c:=x.getD k 0)
         ·walk_at "go"
         ·walk_at "go"
         ·unfold getS; rw [if_neg (by simp)]; simpa using hxk
        ·walk_at "go"
        ·walk_at "auto"
       ·walk_at "auto"
      ·exact hsub bc (x.getD k 0) hbc hc1 _
      ·walk_at "auto"
      ·walk_at "auto"
     ·walk_at "go"
    ·walk_at "setv"
    ·walk_at "auto"
   with_reducible apply Ex.cons
   ·with_reducible apply Ex1.assign
    ·with_reducible apply Ev.idxR (k:=(k:Int)) (xs:=row'.map W.int)
     ·walk_at "go"
     ·walk_at "go"
     ·walk_at "mem"
     ·exact Int.natCast_nonneg _
     ·exact hrk
    ·walk_at "setv"
    ·walk_at "auto"
   with_reducible apply Ex.cons
   ·with_reducible apply Ex1.assign
    ·with_reducible apply Ev.bin
     ·with_reducible apply Ev.callB
      ·exact za0 he (by kernel_rfl)
      ·with_reducible assumption
      ·with_reducible assumption
      ·exact Callee.builtin _
      ·walk_at "go"
      ·exact Fn.min2 hd
      ·walk_at "auto"
      ·walk_at "auto"
     ·walk_at "go"
     ·walk_at "go"
    ·walk_at "setv"
    ·walk_at "auto"
   with_reducible apply Ex.cons
   ·with_reducible apply Ex1.assign
    ·with_reducible apply Ev.callB
     ·exact za0 he (by kernel_rfl)
     ·with_reducible assumption
     ·with_reducible assumption
     ·exact Callee.builtin _
     ·walk_at "go"
     ·exact Fn.min2 hd
     ·walk_at "auto"
     ·walk_at "auto"
    ·walk_at "setv"
    ·walk_at "auto"
   with_reducible apply Ex.cons
   ·apply Ex1.setItem (k:=(k:Int)) (xs:=row'.map W.int)
    ·walk_at "go"
    ·walk_at "go"
    ·walk_at "go"
    ·exact ⟨by lia,by simp; lia⟩
    ·exact SetO.head
   with_reducible apply Ex.one
   refine Ex1.ite0 (t:=decide (min (min rr (row'.getD k 0)+2) (d+subC bc (x.getD k 0))<m)) (⟨[("a",some (.w (.str x))),("b",some (.w (.str y))),("max_cost",some (.w (.int mc))),("pre",pv),("post",qv),("row",some (.ref r)),("result",some (.w (.int (min (min rr (row'.getD k 0)+2) (d+subC bc (x.getD k 0)))))),("bindex",some (.w (.int bi))),("bchar",some (.w (.str [bc]))),("distance",some (.w (.int (row'.getD k 0)))),("minimum",some (.w (.int (zh8 bc x ⟨d,rr,m,row'⟩ k).m))),("index",some (.w (.int k))),("substitute",some (.w (.int (d+subC bc (x.getD k 0))))),("insert_delete",some (.w (.int (min rr (row'.getD k 0)+2))))],[]⟩) ?_ (fun h=>?_) (fun h=>?_)
   ·walk_at "go"
   ·have e:(zh8 bc x ⟨d,rr,m,row'⟩ k).m=min (min rr (row'.getD k 0)+2) (d+subC bc (x.getD k 0)):=by
     unfold zh8; dsimp only; rw [if_pos (of_decide_eq_true h)]
    rw [e]
    with_reducible apply Ex.one
    with_reducible apply Ex1.assign
    ·walk_at "go"
    ·walk_at "setv"
    ·walk_at "auto"
   ·have e:(zh8 bc x ⟨d,rr,m,row'⟩ k).m=m:=by
     unfold zh8; dsimp only; rw [if_neg (of_decide_eq_false h)]
    rw [e]
    exact Ex.nil
  ·walk_at "less"
  ·simp only [List.map_set,Int.toNat_natCast]; exact List.Sublist.refl _
 ·rw [hlen]; exact Ex.nil
noncomputable abbrev zo2:Stmt:=(zb6 zg6).getD 15 stD
theorem zw4 (hl:LevK K n) (he:env.scope=za4 zg6) (x y:List Nat) (mc:Int) (pv qv:Option V) (r:Addr) (k:Nat) (hk:k<y.length) (hx:x.length≤40) (hcx : ∀ c∈x,c<128) (hcy : ∀ c∈y,c<128) :
  ((zc6 x y (k+1)).m≤mc→Ex K n env ⟨("a",some (.w (.str x)))::("b",some (.w (.str y)))::("max_cost",some (.w (.int mc)))::("pre",pv)::("post",qv)::("row",some (.ref r))::("result",some (.w (.int (zc6 x y k).r)))::("bindex",some (.w (.int k)))::nU8,[]⟩ ((r,.list ((zc6 x y k).row.map W.int))::σ) (zq9 zo2) .next
   ⟨("a",some (.w (.str x)))::("b",some (.w (.str y)))::("max_cost",some (.w (.int mc)))::("pre",pv)::("post",qv)::("row",some (.ref r))::("result",some (.w (.int (zc6 x y (k+1)).r)))::nU7,[]⟩ ((r,.list ((zc6 x y (k+1)).row.map W.int))::σ)) ∧
  (mc<(zc6 x y (k+1)).m→Ex K n env ⟨("a",some (.w (.str x)))::("b",some (.w (.str y)))::("max_cost",some (.w (.int mc)))::("pre",pv)::("post",qv)::("row",some (.ref r))::("result",some (.w (.int (zc6 x y k).r)))::("bindex",some (.w (.int k)))::nU8,[]⟩ ((r,.list ((zc6 x y k).row.map W.int))::σ) (zq9 zo2) (.ret (.w (.int (mc+1))))
   ⟨[("a",none),("b",none),("max_cost",none),("pre",none),("post",none),("row",none),("result",none),("bindex",none),("bchar",none),("distance",none),("minimum",none),("index",none),("substitute",none),("insert_delete",none)],[]⟩ σ):=by
 have hyk:y[k]? = some (y.getD k 0):=by simp [List.getElem?_eq_getElem hk,List.getD]
 have hc1:y.getD k 0<128:=hcy _ (List.mem_of_getElem? hyk)
 have base : ∀ o ρ' σ',Ex K n env ⟨("a",some (.w (.str x)))::("b",some (.w (.str y)))::("max_cost",some (.w (.int mc)))::("pre",pv)::("post",qv)::("row",some (.ref r))::("result",some (.w (.int (zc6 x y (k+1)).r)))::("bindex",some (.w (.int k)))::("bchar",some (.w (.str [y.getD k 0])))::("distance",some (.w (.int (zc6 x y (k+1)).d)))::("minimum",some (.w (.int (zc6 x y (k+1)).m)))::nU11,[]⟩ ((r,.list ((zc6 x y (k+1)).row.map W.int))::σ) ((zq9 zo2).drop 4) o ρ' σ' →
   Ex K n env ⟨("a",some (.w (.str x)))::("b",some (.w (.str y)))::("max_cost",some (.w (.int mc)))::("pre",pv)::("post",qv)::("row",some (.ref r))::("result",some (.w (.int (zc6 x y k).r)))::("bindex",some (.w (.int k)))::nU8,[]⟩ ((r,.list ((zc6 x y k).row.map W.int))::σ) (zq9 zo2) o ρ' σ':=by
  intro o ρ' σ' h
  obtain ⟨hd,hsub,⟨t,hM⟩,hX,l1,l2,m1,m2,r1,r2,li1,li2⟩:=id hl
  have hM' : ∃ t,K.mg "_MOVE_COST" = some (.int 2 t):=⟨t,hM⟩
  conv=>arg 6; whnf
  with_reducible apply Ex.cons
  ·with_reducible apply Ex1.assign
   ·with_reducible apply Ev.idxS (k:=(k:Int)) (c:=y.getD k 0)
    ·walk_at "go"
    ·walk_at "go"
    ·unfold getS; rw [if_neg (by lia)]; simpa using hyk
   ·walk_at "setv"
   ·walk_at "auto"
  with_reducible apply Ex.cons
  ·with_reducible apply Ex1.assign2
   ·with_reducible apply Ev.bin
    ·walk_at "go"
    ·walk_at "go"
    ·exact Opn.mulI (IntMulOk.of_right (by decide +kernel))
   ·walk_at "setv"
   ·walk_at "setv"
   ·walk_at "auto"
  with_reducible apply Ex.cons
  ·with_reducible apply Ex1.assign
   ·walk_at "go"
   ·walk_at "setv"
   ·walk_at "auto"
  with_reducible apply Ex.cons
  ·exact zR8 hl he x y mc pv qv r (zc6 x y k).row (y.getD k 0) k hx hcx hc1 (zz8 _ _ _)
  exact h
 refine ⟨fun hm=>base _ _ _ ?_,fun hm=>base _ _ _ ?_⟩
 ·conv=>arg 6; whnf
  apply Ex.less
  ·with_reducible apply Ex.one
   with_reducible apply Ex1.iteF
   ·walk_at "go"
   ·simpa using hm
   ·exact Ex.nil
  ·walk_at "less"
  ·exact List.Sublist.refl _
 ·conv=>arg 6; whnf
  apply Ex.less
  ·with_reducible apply Ex.one
   with_reducible apply Ex1.iteT
   ·walk_at "go"
   ·simpa using hm
   ·(with_reducible apply Ex.one; with_reducible apply Ex1.ret; walk_at "go")
  ·apply Less.none; rfl
  ·exact List.sublist_cons_self _ _
theorem zv9 (k:Nat):(zl1 k).map W.int=za3 2 2 k:=by simp [zl1,za3]
theorem ye3 (hl:LevK K n) (he:env.scope=za4 zg6) (x y:List Nat) (mc:Int) (pv qv:Option V) (hx:x.length≤40) (hy:y.length≤40) (hcx : ∀ c∈x,c<128) (hcy : ∀ c∈y,c<128) :
  Ex K n env ⟨("a",some (.w (.str x)))::("b",some (.w (.str y)))::("max_cost",some (.w (.int mc)))::("pre",pv)::("post",qv)::nU5,[]⟩ σ ((zb6 zg6).drop 13) (.ret (.w (.int (zK7 x y mc)))) ⟨[("a",none),("b",none),("max_cost",none),("pre",none),("post",none),("row",none),("result",none),("bindex",none),("bchar",none),("distance",none),("minimum",none),("index",none),("substitute",none),("insert_delete",none)],[]⟩ σ:=by
 have hl':=hl
 obtain ⟨hd,hsub,hM,hX,l1,l2,m1,m2,r1,r2,li1,li2⟩:=hl
 conv=>arg 6; whnf
 (have zq:=range2 x.length (by exact Nat.lt_succ_of_le ‹_›); have q1:=zq.1; have q2:=zq.2.1; have q3:=zq.2.2)
 refine Ex.assignN (o:=.list ((zl1 x.length).map W.int)) (σ₁:=σ) ?_ (fun r=>⟨("a",some (.w (.str x)))::("b",some (.w (.str y)))::("max_cost",some (.w (.int mc)))::("pre",pv)::("post",qv)::("row",some (.ref r))::nU6,[]⟩) (fun a=>by walk_at "setv") fun r=>?_
 ·rw [zv9]
  apply EvN.listRange (a:=2) (b:=2*((x.length:Int)+1)) (c:=2) (m:=x.length) hd
  ·exact za0 he (by kernel_rfl)
  ·with_reducible assumption
  ·with_reducible assumption
  ·exact za0 he (by kernel_rfl)
  ·with_reducible assumption
  ·with_reducible assumption
  ·apply Evs.cons
   ·walk_at "go"
   ·apply Evs.cons
    ·apply Ev.bin
     ·walk_at "go"
     ·apply Ev.bin
      ·exact Ev.len (za0 he (by kernel_rfl)) (by with_reducible assumption) (by with_reducible assumption) (by walk_at "mem") (by kernel_rfl)
      ·walk_at "go"
      ·walk_at "go"
     ·exact Opn.mulI (IntMulOk.of_left (by decide +kernel))
    ·walk_at "go"
    ·walk_at "auto"
   ·walk_at "auto"
  ·exact .inr (.inr ⟨rfl,by decide,q3⟩)
  ·exact q2
  ·exact q1
  ·lia
 (with_reducible apply Ex.cons; with_reducible apply Ex1.assign; walk_at "go"; walk_at "setv"; with_unfolding_all rfl)
 have hlen:(za3 0 1 y.length).length=y.length:=za1 _ _ _
 by_cases hany : ∃ j,j<y.length∧mc<(zc6 x y (j+1)).m
 ·have e:zK7 x y mc=mc+1:=by
   unfold zK7; rw [if_pos]
   refine obEA hany fun j h1 h2=>?_
   simp only [List.any_eq_true,List.mem_range,decide_eq_true_eq]; exact ⟨j,h1,h2⟩
  rw [e]
  obtain ⟨j0,hj0⟩:=hany
  (refine zd4 (least (fun j=>j<y.length∧mc<(zc6 x y (j+1)).m) j0 hj0) fun j _ zq2 hmin=>?_; obtain ⟨hj,hjm⟩:=zq2)
  (with_reducible apply Ex.stop; rotate_left; focus (first | (intro h; cases h; done) | simp))
  refine Ex1.forExit (j:=j) (items:=za3 0 1 y.length) (fun k=>⟨("a",some (.w (.str x)))::("b",some (.w (.str y)))::("max_cost",some (.w (.int mc)))::("pre",pv)::("post",qv)::("row",some (.ref r))::("result",some (.w (.int (zc6 x y k).r)))::nU7,[]⟩)
   (fun k=>⟨("a",some (.w (.str x)))::("b",some (.w (.str y)))::("max_cost",some (.w (.int mc)))::("pre",pv)::("post",qv)::("row",some (.ref r))::("result",some (.w (.int (zc6 x y k).r)))::("bindex",some (.w (.int k)))::nU8,[]⟩)
   (fun k=>(r,.list ((zc6 x y k).row.map W.int))::σ) ?_ (fun _=>rfl) (by rw [hlen]; exact hj) (fun k w hkj hk=>?_) (fun w hk=>?_)
  ·show ItN K n env ⟨("a",some (.w (.str x)))::("b",some (.w (.str y)))::("max_cost",some (.w (.int mc)))::("pre",pv)::("post",qv)::("row",some (.ref r))::("result",some (.w (.int 0)))::nU7,[]⟩ _ ((r,.list ((zl1 x.length).map W.int))::σ) _ ((r,.list ((zl1 x.length).map W.int))::σ) _
   apply ItN.range1N
   ·exact za0 he (by kernel_rfl)
   ·with_reducible assumption
   ·with_reducible assumption
   ·exact Ev.len (za0 he (by kernel_rfl)) (by with_reducible assumption) (by with_reducible assumption) (by walk_at "mem") (by kernel_rfl)
   ·lia
   all_goals walk_at "auto"
  ·(have zq:=zb1 hk; have hkl:=zq.1; have zq1:=zq.2; subst zq1)
   refine ⟨?_,.inl ?_⟩
   ·apply Bind.name
    walk_at "setv"
   exact (zw4 hl' he x y mc pv qv r k hkl hx hcx hcy).1 (by have:=hmin k hkj; lia)
  ·(have zq:=zb1 hk; have hkl:=zq.1; have zq1:=zq.2; subst zq1)
   refine ⟨?_,.inr ⟨_,?_,rfl⟩⟩
   ·apply Bind.name
    walk_at "setv"
   exact (zw4 hl' he x y mc pv qv r j hkl hx hcx hcy).2 hjm
 ·have e:zK7 x y mc=(zc6 x y y.length).r:=by
   unfold zK7; rw [if_neg]
   simp only [List.any_eq_true,List.mem_range,decide_eq_true_eq]; exact hany
  rw [e]
  apply Ex.less
  ·with_reducible apply Ex.cons
   ·refine Ex1.for (items:=za3 0 1 y.length) (fun k=>⟨("a",some (.w (.str x)))::("b",some (.w (.str y)))::("max_cost",some (.w (.int mc)))::("pre",pv)::("post",qv)::("row",some (.ref r))::("result",some (.w (.int (zc6 x y k).r)))::nU7,[]⟩)
     (fun k=>⟨("a",some (.w (.str x)))::("b",some (.w (.str y)))::("max_cost",some (.w (.int mc)))::("pre",pv)::("post",qv)::("row",some (.ref r))::("result",some (.w (.int (zc6 x y k).r)))::("bindex",some (.w (.int k)))::nU8,[]⟩)
     (fun k=>(r,.list ((zc6 x y k).row.map W.int))::σ) (ρ':=⟨("a",some (.w (.str x)))::("b",some (.w (.str y)))::("max_cost",some (.w (.int mc)))::("pre",pv)::("post",qv)::("row",some (.ref r))::("result",some (.w (.int (zc6 x y y.length).r)))::nU7,[]⟩) (σ':=(r,.list ((zc6 x y y.length).row.map W.int))::σ) ?_ (fun _=>rfl) (fun k w hk=>?_) ?_
    ·show ItN K n env ⟨("a",some (.w (.str x)))::("b",some (.w (.str y)))::("max_cost",some (.w (.int mc)))::("pre",pv)::("post",qv)::("row",some (.ref r))::("result",some (.w (.int 0)))::nU7,[]⟩ _ ((r,.list ((zl1 x.length).map W.int))::σ) _ ((r,.list ((zl1 x.length).map W.int))::σ) _
     apply ItN.range1N
     ·exact za0 he (by kernel_rfl)
     ·with_reducible assumption
     ·with_reducible assumption
     ·exact Ev.len (za0 he (by kernel_rfl)) (by with_reducible assumption) (by with_reducible assumption) (by walk_at "mem") (by kernel_rfl)
     ·lia
     all_goals walk_at "auto"
    ·(have zq:=zb1 hk; have hkl:=zq.1; have zq1:=zq.2; subst zq1)
     refine ⟨?_,.inl ?_⟩
     ·apply Bind.name
      walk_at "setv"
     exact (zw4 hl' he x y mc pv qv r k hkl hx hcx hcy).1 (by
      rcases Int.lt_or_le mc (zc6 x y (k+1)).m with h | h
      ·exact absurd ⟨k,hkl,h⟩ hany
      ·exact h)
    ·rw [hlen]; exact Ex.nil
   ·(with_reducible apply Ex.one; with_reducible apply Ex1.ret; walk_at "go")
  ·apply Less.none; rfl
  ·exact List.sublist_cons_self _ _
end
section
variable {K:Kc} {n:Nat} {σ:List (Addr × O)} {env:Env}
theorem zR9 (hl:LevK K n) (he:env.scope=za4 zg6) (x y:List Nat) (mc:Int) (pv qv:Option V) (hx:x.length≤40) (hy:y.length≤40) (hcx : ∀ c∈x,c<128) (hcy : ∀ c∈y,c<128) :
  Ex K n env ⟨("a",some (.w (.str x)))::("b",some (.w (.str y)))::("max_cost",some (.w (.int mc)))::("pre",pv)::("post",qv)::nU5,[]⟩ σ ((zb6 zg6).drop 12) (.ret (.w (.int (zX7 x y mc)))) ⟨[("a",none),("b",none),("max_cost",none),("pre",none),("post",none),("row",none),("result",none),("bindex",none),("bchar",none),("distance",none),("minimum",none),("index",none),("substitute",none),("insert_delete",none)],[]⟩ σ:=by
 have run:=ye3 (σ:=σ) hl he x y mc pv qv hx hy hcx hcy
 obtain ⟨hd,hsub,hM,hX,l1,l2,m1,m2,r1,r2,li1,li2⟩:=hl
 conv=>arg 6; whnf
 have go : ∀ b:Bool,b=decide (mc<((y.length:Int) - x.length)*2)→Ts K n env ⟨("a",some (.w (.str x)))::("b",some (.w (.str y)))::("max_cost",some (.w (.int mc)))::("pre",pv)::("post",qv)::nU5,[]⟩ (zH8 ((zb6 zg6).getD 12 stD)) σ b σ:=by
  rintro _ rfl
  conv=>arg 5; whnf
  with_reducible apply Ts.cmp
  ·with_reducible apply Ev.bin
   ·with_reducible apply Ev.bin
    ·exact Ev.len (za0 he (by kernel_rfl)) (by with_reducible assumption) (by with_reducible assumption) (by walk_at "mem") (by kernel_rfl)
    ·exact Ev.len (za0 he (by kernel_rfl)) (by with_reducible assumption) (by with_reducible assumption) (by walk_at "mem") (by kernel_rfl)
    ·walk_at "go"
   ·walk_at "go"
   ·exact Opn.mulI (IntMulOk.of_right (by decide +kernel))
  ·walk_at "go"
  ·walk_at "go"
  ·walk_at "auto"
 unfold zX7
 split
 ·rename_i h
  apply Ex.less
  ·apply Ex.ifT (go true (by simp [h])) rfl
   ·(with_reducible apply Ex.one; with_reducible apply Ex1.ret; walk_at "go")
   ·simp
  ·apply Less.none; rfl
  ·exact List.Sublist.refl _
 ·rename_i h
  apply Ex.ifF (go false (by simp [h])) rfl
  exact run
theorem ye4 (hl:LevK K n) (he:env.scope=za4 zg6) (x y:List Nat) (mc:Int) (pv qv:Option V) (hx:x.length≤40) (hy:y.length≤40) (hcx : ∀ c∈x,c<128) (hcy : ∀ c∈y,c<128) :
  Ex K n env ⟨("a",some (.w (.str x)))::("b",some (.w (.str y)))::("max_cost",some (.w (.int mc)))::("pre",pv)::("post",qv)::nU5,[]⟩ σ ((zb6 zg6).drop 9) (.ret (.w (.int (yd9 (x,y) mc)))) ⟨[("a",none),("b",none),("max_cost",none),("pre",none),("post",none),("row",none),("result",none),("bindex",none),("bchar",none),("distance",none),("minimum",none),("index",none),("substitute",none),("insert_delete",none)],[]⟩ σ:=by
 have run1:=zR9 (σ:=σ) hl he x y mc pv qv hx hy hcx hcy
 have run2:=zR9 (σ:=σ) hl he y x mc pv qv hy hx hcy hcx
 obtain ⟨hd,hsub,hM,hX,l1,l2,m1,m2,r1,r2,li1,li2⟩:=hl
 conv=>arg 6; whnf
 have go : ∀ b:Bool,b=decide (x=[]∨y=[])→Ts K n env ⟨("a",some (.w (.str x)))::("b",some (.w (.str y)))::("max_cost",some (.w (.int mc)))::("pre",pv)::("post",qv)::nU5,[]⟩ (zH8 ((zb6 zg6).getD 9 stD)) σ b σ:=by
  rintro _ rfl
  conv=>arg 5; whnf
  apply Ts.boolop
  apply TsL.or (b:=decide (x=[])) (σ₁:=σ)
  ·apply Ts.conv
   ·with_reducible apply Ts.not
    apply Ts.strv
    ·walk_at "go"
    ·walk_at "auto"
   ·cases x <;> simp
  ·intro hx
   apply TsL.or (b:=decide (y=[])) (σ₁:=σ)
   ·apply Ts.conv
    ·with_reducible apply Ts.not
     apply Ts.strv
     ·walk_at "go"
     ·walk_at "auto"
    ·cases y <;> simp
   ·intro hy
    have e1 : ¬ x=[]:=of_decide_eq_false hx
    have e2 : ¬ y=[]:=of_decide_eq_false hy
    have:decide (x=[]∨y=[])=false:=by simp [e1,e2]
    rw [this]
    exact TsL.or_nil
   ·intro h; exact ⟨rfl,by simp [of_decide_eq_true h]⟩
  ·intro h; exact ⟨rfl,by simp [of_decide_eq_true h]⟩
 unfold yd9
 dsimp only
 split
 ·rename_i h
  apply Ex.less
  ·apply Ex.ifT (go true (by simp [h])) rfl
   case ho=>simp
   with_reducible apply Ex.one
   with_reducible apply Ex1.ret
   with_reducible apply Ev.bin
   ·walk_at "go"
   ·with_reducible apply Ev.bin
    ·exact Ev.len (za0 he (by kernel_rfl)) (by with_reducible assumption) (by with_reducible assumption) (by walk_at "mem") (by kernel_rfl)
    ·exact Ev.len (za0 he (by kernel_rfl)) (by with_reducible assumption) (by with_reducible assumption) (by walk_at "mem") (by kernel_rfl)
    ·walk_at "go"
   ·exact Opn.mulI (IntMulOk.of_left (by decide +kernel))
  ·apply Less.none; rfl
  ·exact List.Sublist.refl _
 ·rename_i h
  apply Ex.ifF (go false (by simp [h])) rfl
  refine Ex.ifF (t:=false) (σ₁:=σ) ?_ rfl ?_
  ·apply Ts.boolop
   apply TsL.or (b:=false) (σ₁:=σ)
   ·apply Ts.conv
    ·with_reducible apply Ts.cmp
     ·exact Ev.len (za0 he (by kernel_rfl)) (by with_reducible assumption) (by with_reducible assumption) (by walk_at "mem") (by kernel_rfl)
     ·walk_at "go"
     ·walk_at "go"
     ·walk_at "auto"
    ·simp; lia
   ·intro _
    apply TsL.or (b:=false) (σ₁:=σ)
    ·apply Ts.conv
     ·with_reducible apply Ts.cmp
      ·exact Ev.len (za0 he (by kernel_rfl)) (by with_reducible assumption) (by with_reducible assumption) (by walk_at "mem") (by kernel_rfl)
      ·walk_at "go"
      ·walk_at "go"
      ·walk_at "auto"
     ·simp; lia
    ·intro _; exact TsL.or_nil
    ·intro h; cases h
   ·intro h; cases h
  split
  ·rename_i h2
   with_reducible apply Ex.cons
   ·apply Ex1.iteT
    ·with_reducible apply Ts.cmp
     ·exact Ev.len (za0 he (by kernel_rfl)) (by with_reducible assumption) (by with_reducible assumption) (by walk_at "mem") (by kernel_rfl)
     ·exact Ev.len (za0 he (by kernel_rfl)) (by with_reducible assumption) (by with_reducible assumption) (by walk_at "mem") (by kernel_rfl)
     ·walk_at "go"
     ·walk_at "auto"
    ·simp; trivial
    ·with_reducible apply Ex.one
     with_reducible apply Ex1.swap2 hd
     ·walk_at "go"
     ·exact za0 he (by kernel_rfl)
     ·exact za0 he (by kernel_rfl)
     ·walk_at "setv"
     ·walk_at "setv"
     ·exact zv1 (by kernel_rfl) (by kernel_rfl) (by kernel_rfl)
   exact run2
  ·rename_i h2
   apply Ex.ifF
   ·with_reducible apply Ts.cmp
    ·exact Ev.len (za0 he (by kernel_rfl)) (by with_reducible assumption) (by with_reducible assumption) (by walk_at "mem") (by kernel_rfl)
    ·exact Ev.len (za0 he (by kernel_rfl)) (by with_reducible assumption) (by with_reducible assumption) (by walk_at "mem") (by kernel_rfl)
    ·walk_at "go"
    ·walk_at "auto"
   ·simp; exact Nat.le_of_not_lt ‹_›
   ·exact run1
theorem zR7 (he:env.scope=za4 zg6) (x y:List Nat) (k:Nat) (t:Bool) (mv:Option V) (ht:t=true ↔ ∃ c,x[k]? = some c∧y[k]? = some c) :
  Ts K n env ⟨("a",some (.w (.str x)))::("b",some (.w (.str y)))::("max_cost",mv)::("pre",some (.w (.int k)))::nU4,[]⟩ (zH8 ((zb6 zg6).getD 2 stD)) σ t σ:=by
 conv=>arg 5; whnf
 have g1 : ∀ {α:Type} (xs:List α),xs[k]? = none→xs.drop k=[]:=fun xs h=>List.drop_eq_nil_of_le (List.getElem?_eq_none_iff.mp h)
 have g2 : ∀ {α:Type} (xs:List α) (c:α),xs[k]? = some c→(xs.drop k).isEmpty=false:=fun xs c h=>by
  obtain ⟨h1,h2⟩:=List.getElem?_eq_some_iff.mp h
  simp; trivial
 apply Ts.boolop
 cases hx:x[k]? with
 | none =>
  have ht':t=false:=by
   cases t with
   | false=>rfl
   | true=>refine obEA (ht.mp rfl) fun c h _=>?_; rw [hx] at h; cases h
  subst ht'
  apply TsL.and (b:=false) (σ₁:=σ)
  ·apply Ts.conv
   ·apply Ts.strv
    ·apply Ev.cutS (a:=some (k:Int)) (b:=none) (c:=none)
     ·walk_at "go"
     ·apply EvO.num; walk_at "go"
     ·exact EvO.nil
     ·exact EvO.nil
     ·rfl
    ·walk_at "auto"
   ·rw [zj0,g1 _ hx]; rfl
  ·intro h; cases h
  ·intro _; exact ⟨rfl,rfl⟩
 | some c =>
  apply TsL.and (b:=true) (σ₁:=σ)
  ·apply Ts.conv
   ·apply Ts.strv
    ·apply Ev.cutS (a:=some (k:Int)) (b:=none) (c:=none)
     ·walk_at "go"
     ·apply EvO.num; walk_at "go"
     ·exact EvO.nil
     ·exact EvO.nil
     ·rfl
    ·walk_at "auto"
   ·rw [zj0,g2 _ _ hx]; rfl
  ·intro _
   cases hy:y[k]? with
   | none =>
    have ht':t=false:=by
     cases t with
     | false=>rfl
     | true=>refine obEA (ht.mp rfl) fun c _ h=>?_; rw [hy] at h; cases h
    subst ht'
    apply TsL.and (b:=false) (σ₁:=σ)
    ·apply Ts.conv
     ·apply Ts.strv
      ·apply Ev.cutS (a:=some (k:Int)) (b:=none) (c:=none)
       ·walk_at "go"
       ·apply EvO.num; walk_at "go"
       ·exact EvO.nil
       ·exact EvO.nil
       ·rfl
      ·walk_at "auto"
     ·rw [zj0,g1 _ hy]; rfl
    ·intro h; cases h
    ·intro _; exact ⟨rfl,rfl⟩
   | some d =>
    apply TsL.and (b:=true) (σ₁:=σ)
    ·apply Ts.conv
     ·apply Ts.strv
      ·apply Ev.cutS (a:=some (k:Int)) (b:=none) (c:=none)
       ·walk_at "go"
       ·apply EvO.num; walk_at "go"
       ·exact EvO.nil
       ·exact EvO.nil
       ·rfl
      ·walk_at "auto"
     ·rw [zj0,g2 _ _ hy]; rfl
    ·intro _
     have ht':t=decide (c=d):=by
      rw [hx,hy] at ht
      cases t with
      | true=>refine obEA (ht.mp rfl) fun e h1 h2=>?_; cases h1; cases h2; simp
      | false =>
       by_cases e:c=d
       ·subst e; have:=ht.mpr ⟨c,rfl,rfl⟩; cases this
       ·simp [e]
     subst ht'
     apply TsL.and (b:=decide (c=d)) (σ₁:=σ)
     ·apply Ts.conv
      ·with_reducible apply Ts.cmp
       ·with_reducible apply Ev.idxS (k:=(k:Int)) (c:=c)
        ·walk_at "go"
        ·walk_at "go"
        ·unfold getS; rw [if_neg (by simp)]; simpa using hx
       ·with_reducible apply Ev.idxS (k:=(k:Int)) (c:=d)
        ·walk_at "go"
        ·walk_at "go"
        ·unfold getS; rw [if_neg (by lia)]; simpa using hy
       ·walk_at "go"
       ·walk_at "auto"
      ·simp
     ·intro h; rw [h]; exact TsL.and_nil
     ·intro h; exact ⟨rfl,h⟩
    ·intro h; cases h
  ·intro h; cases h
theorem zR6 (he:env.scope=za4 zg6) (x y:List Nat) (k:Nat) (t:Bool) (mv pv:Option V) (hkx:k≤x.length) (hky:k≤y.length) (ht:t=true ↔ ∃ c,x.reverse[k]? = some c∧y.reverse[k]? = some c) :
  Ts K n env ⟨("a",some (.w (.str x)))::("b",some (.w (.str y)))::("max_cost",mv)::("pre",pv)::("post",some (.w (.int (-(k:Nat)))))::nU5,[]⟩ (zH8 ((zb6 zg6).getD 6 stD)) σ t σ:=by
 conv=>arg 5; whnf
 have g1 : ∀ (xs:List Nat),xs.reverse[k]? = none→xs.take (xs.length - k)=[]:=fun xs h=>by
  have:=List.getElem?_eq_none_iff.mp h
  simp at this; simp; lia
 have g2 : ∀ (xs:List Nat) (c:Nat),xs.reverse[k]? = some c→(xs.take (xs.length - k)).isEmpty=false∧k<xs.length:=fun xs c h=>by
  obtain ⟨h1,h2⟩:=List.getElem?_eq_some_iff.mp h
  simp at h1
  refine ⟨?_,h1⟩
  cases hq:(xs.take (xs.length - k)).isEmpty with
  | false=>rfl
  | true =>
   have:=List.isEmpty_iff.mp hq
   have:=congrArg List.length this
   simp at this; lia
 apply Ts.boolop
 cases hx:x.reverse[k]? with
 | none =>
  have ht':t=false:=by
   cases t with
   | false=>rfl
   | true=>refine obEA (ht.mp rfl) fun c h _=>?_; rw [hx] at h; cases h
  subst ht'
  apply TsL.and (b:=false) (σ₁:=σ)
  ·apply Ts.conv
   ·apply Ts.strv
    ·apply Ev.cutS (a:=none) (b:=if k=0 then none else some (-(k:Int))) (c:=none)
     ·walk_at "go"
     ·exact EvO.nil
     ·apply EvO.post; walk_at "go"
     ·exact EvO.nil
     ·rfl
    ·walk_at "auto"
   ·rw [zi9,g1 _ hx]; rfl
  ·intro h; cases h
  ·intro _; exact ⟨rfl,rfl⟩
 | some c =>
  apply TsL.and (b:=true) (σ₁:=σ)
  ·apply Ts.conv
   ·apply Ts.strv
    ·apply Ev.cutS (a:=none) (b:=if k=0 then none else some (-(k:Int))) (c:=none)
     ·walk_at "go"
     ·exact EvO.nil
     ·apply EvO.post; walk_at "go"
     ·exact EvO.nil
     ·rfl
    ·walk_at "auto"
   ·rw [zi9,(g2 _ _ hx).1]; rfl
  ·intro _
   cases hy:y.reverse[k]? with
   | none =>
    have ht':t=false:=by
     cases t with
     | false=>rfl
     | true=>refine obEA (ht.mp rfl) fun c _ h=>?_; rw [hy] at h; cases h
    subst ht'
    apply TsL.and (b:=false) (σ₁:=σ)
    ·apply Ts.conv
     ·apply Ts.strv
      ·apply Ev.cutS (a:=none) (b:=if k=0 then none else some (-(k:Int))) (c:=none)
       ·walk_at "go"
       ·exact EvO.nil
       ·apply EvO.post; walk_at "go"
       ·exact EvO.nil
       ·rfl
      ·walk_at "auto"
     ·rw [zi9,g1 _ hy]; rfl
    ·intro h; cases h
    ·intro _; exact ⟨rfl,rfl⟩
   | some d =>
    apply TsL.and (b:=true) (σ₁:=σ)
    ·apply Ts.conv
     ·apply Ts.strv
      ·apply Ev.cutS (a:=none) (b:=if k=0 then none else some (-(k:Int))) (c:=none)
       ·walk_at "go"
       ·exact EvO.nil
       ·apply EvO.post; walk_at "go"
       ·exact EvO.nil
       ·rfl
      ·walk_at "auto"
     ·rw [zi9,(g2 _ _ hy).1]; rfl
    ·intro _
     have ht':t=decide (c=d):=by
      rw [hx,hy] at ht
      cases t with
      | true=>refine obEA (ht.mp rfl) fun e h1 h2=>?_; cases h1; cases h2; simp
      | false =>
       by_cases e:c=d
       ·subst e; have:=ht.mpr ⟨c,rfl,rfl⟩; cases this
       ·simp [e]
     subst ht'
     apply TsL.and (b:=decide (c=d)) (σ₁:=σ)
     ·apply Ts.conv
      ·with_reducible apply Ts.cmp
       ·with_reducible apply Ev.idxS (k := -(k:Int) - 1) (c:=c)
        ·walk_at "go"
        ·walk_at "go"
        ·rw [zA7 _ _ (g2 _ _ hx).2]; exact hx
       ·with_reducible apply Ev.idxS (k := -(k:Int) - 1) (c:=d)
        ·walk_at "go"
        ·walk_at "go"
        ·rw [zA7 _ _ (g2 _ _ hy).2]; exact hy
       ·walk_at "go"
       ·walk_at "auto"
      ·simp
     ·intro h; rw [h]; exact TsL.and_nil
     ·intro h; exact ⟨rfl,h⟩
    ·intro h; cases h
  ·intro h; cases h
theorem yb4 (x y:List Nat) (k:Nat) (h:k<preN x y):(true=true ↔ ∃ c,x[k]? = some c∧y[k]? = some c):=⟨fun _=>zP0 h,fun _=>rfl⟩
theorem yb3 (x y:List Nat):(false=true ↔ ∃ c,x[preN x y]? = some c∧y[preN x y]? = some c):=by
 constructor
 ·intro h; cases h
 ·rintro ⟨c,h1,h2⟩
  rcases zG7 x y with h | h | ⟨d,e,h,h',hne⟩
  ·rw [h] at h1; cases h1
  ·rw [h] at h2; cases h2
  ·rw [h] at h1; rw [h'] at h2; cases h1; cases h2; exact absurd rfl hne
theorem zS0 (hl:LevK K n) {a0:Addr} {fd:FuncData} (D:DefAt K "_levenshtein_distance" zg6 a0 fd) (x y:List Nat) (mc:Int) (hx:x.length≤40) (hy:y.length≤40) (hcx : ∀ c∈x,c<128) (hcy : ∀ c∈y,c<128) :
  Calls K (n+1) "_levenshtein_distance" [.w (.str x),.w (.str y),.w (.int mc)] σ (.w (.int (lev x y mc))) σ:=by
 refine Calls.of D (Pars.ofN (l:=["pre","post","row","result","bindex","bchar","distance","minimum","index","substitute","insert_delete"]) rfl (by decide +kernel) (by decide +kernel)) (ρ':=⟨[("a",none),("b",none),("max_cost",none),("pre",none),("post",none),("row",none),("result",none),("bindex",none),("bchar",none),("distance",none),("minimum",none),("index",none),("substitute",none),("insert_delete",none)],[]⟩) (fun env he=>?_) (.inl rfl)
 show Ex K n env ⟨("a",some (.w (.str x)))::("b",some (.w (.str y)))::("max_cost",some (.w (.int mc)))::nU3,[]⟩ σ (zb6 zg6) _ _ _
 have mid:=ye4 (σ:=σ) hl he (zu8 x y).1 (zu8 x y).2 mc (some (.w (.int (preN x y:Nat)))) (some (.w (.int (-(preN (x.drop (preN x y)).reverse (y.drop (preN x y)).reverse:Nat)))))
  (Nat.le_trans (zG1 x y).1 hx) (Nat.le_trans (zG1 x y).2 hy) (fun c h=>hcx c (List.mem_of_mem_drop (List.mem_of_mem_take h))) (fun c h=>hcy c (List.mem_of_mem_drop (List.mem_of_mem_take h)))
 conv=>arg 6; whnf
 unfold lev
 split
 ·rename_i h
  apply Ex.less
  ·apply Ex.ifT
   ·with_reducible apply Ts.cmp
    ·walk_at "go"
    ·walk_at "go"
    ·walk_at "go"
    ·walk_at "auto"
   ·simp [h]
   ·(with_reducible apply Ex.one; with_reducible apply Ex1.ret; walk_at "go")
   ·simp
  ·apply Less.none; rfl
  ·exact List.Sublist.refl _
 ·rename_i h
  apply Ex.ifF
  ·with_reducible apply Ts.cmp
   ·walk_at "go"
   ·walk_at "go"
   ·walk_at "go"
   ·walk_at "auto"
  ·simp [h]
  (with_reducible apply Ex.cons; with_reducible apply Ex1.assign; walk_at "go"; walk_at "setv"; with_unfolding_all rfl)
  refine Ex.cons (ρ₁:=⟨("a",some (.w (.str x)))::("b",some (.w (.str y)))::("max_cost",some (.w (.int mc)))::("pre",some (.w (.int (preN x y:Nat))))::nU4,[]⟩) (σ₁:=σ) ?_ ?_
  ·refine Ex1.whileFrom (σ₁:=σ) (preN x y) (fun k=>⟨("a",some (.w (.str x)))::("b",some (.w (.str y)))::("max_cost",some (.w (.int mc)))::("pre",some (.w (.int k)))::nU4,[]⟩) (fun _=>σ) (fun _=>σ) rfl rfl (fun k hk=>?_) (fun k hk=>?_) ?_ Ex.nil
   ·exact zR7 he x y k true _ (yb4 x y k hk)
   ·have e:((k+1:Nat):Int)=(k:Int)+1:=by trivial
    rw [e]
    with_reducible apply Ex.one
    with_reducible apply Ex1.aug
    ·walk_at "mem"
    ·walk_at "go"
    ·exact Opn.iaddI
    ·walk_at "setv"
   ·exact zR7 he x y _ false _ (yb3 x y)
  have dx:cut1 (some ((preN x y:Nat):Int)) none x=x.drop (preN x y):=zj0 _ _
  have dy:cut1 (some ((preN x y:Nat):Int)) none y=y.drop (preN x y):=zj0 _ _
  have q:=(rfl:zu8 x y=zu8 x y)
  conv at q=>rhs; unfold zu8
  dsimp only at q
  rw [q] at mid ⊢
  dsimp only at mid
  generalize preN x y=p at *
  generalize x.drop p=x1 at *
  generalize y.drop p=y1 at *
  clear q
  have hN:=zP1 x1.reverse y1.reverse
  simp only [List.length_reverse] at hN
  have tx:cut1 none (if preN x1.reverse y1.reverse=0 then none else some (-((preN x1.reverse y1.reverse:Nat):Int))) x1=x1.take (x1.length - preN x1.reverse y1.reverse):=zi9 _ _
  have ty:cut1 none (if preN x1.reverse y1.reverse=0 then none else some (-((preN x1.reverse y1.reverse:Nat):Int))) y1=y1.take (y1.length - preN x1.reverse y1.reverse):=zi9 _ _
  with_reducible apply Ex.cons
  ·with_reducible apply Ex1.assign
   ·refine Ev.conv (σ':=σ) (v:=.w (.str (cut1 (some (p:Int)) none x))) ?_ (by rw [dx])
    apply Ev.cutS (c:=none)
    ·walk_at "go"
    ·apply EvO.num; walk_at "go"
    ·exact EvO.nil
    ·exact EvO.nil
    ·rfl
   ·walk_at "setv"
   ·walk_at "auto"
  with_reducible apply Ex.cons
  ·with_reducible apply Ex1.assign
   ·refine Ev.conv (σ':=σ) (v:=.w (.str (cut1 (some (p:Int)) none y))) ?_ (by rw [dy])
    apply Ev.cutS (c:=none)
    ·walk_at "go"
    ·apply EvO.num; walk_at "go"
    ·exact EvO.nil
    ·exact EvO.nil
    ·rfl
   ·walk_at "setv"
   ·walk_at "auto"
  (with_reducible apply Ex.cons; with_reducible apply Ex1.assign; walk_at "go"; walk_at "setv"; with_unfolding_all rfl)
  refine Ex.cons (ρ₁:=⟨("a",some (.w (.str x1)))::("b",some (.w (.str y1)))::("max_cost",some (.w (.int mc)))::("pre",some (.w (.int p)))::("post",some (.w (.int (-(preN x1.reverse y1.reverse:Nat)))))::nU5,[]⟩) (σ₁:=σ) ?_ ?_
  ·refine Ex1.whileFrom (σ₁:=σ) (preN x1.reverse y1.reverse) (fun k=>⟨("a",some (.w (.str x1)))::("b",some (.w (.str y1)))::("max_cost",some (.w (.int mc)))::("pre",some (.w (.int p)))::("post",some (.w (.int (-(k:Nat)))))::nU5,[]⟩) (fun _=>σ) (fun _=>σ) rfl rfl (fun k hk=>?_) (fun k hk=>?_) ?_ Ex.nil
   ·exact zR6 he x1 y1 k true _ _ (by lia) (by lia) (yb4 _ _ k hk)
   ·have e:(-((k+1:Nat):Int)) = -(k:Int) - 1:=by lia
    rw [e]
    with_reducible apply Ex.one
    with_reducible apply Ex1.aug
    ·walk_at "mem"
    ·walk_at "go"
    ·exact Opn.isubI
    ·walk_at "setv"
   ·exact zR6 he x1 y1 _ false _ _ (by exact ‹_∧_›.1) (by exact ‹_∧_›.2) (yb3 _ _)
  generalize preN x1.reverse y1.reverse=q at *
  with_reducible apply Ex.cons
  ·with_reducible apply Ex1.assign
   ·refine Ev.conv (σ':=σ) (v:=.w (.str (cut1 none (if q=0 then none else some (-(q:Int))) x1))) ?_ (by rw [tx])
    apply Ev.cutS (c:=none)
    ·walk_at "go"
    ·exact EvO.nil
    ·apply EvO.post; walk_at "go"
    ·exact EvO.nil
    ·rfl
   ·walk_at "setv"
   ·walk_at "auto"
  with_reducible apply Ex.cons
  ·with_reducible apply Ex1.assign
   ·refine Ev.conv (σ':=σ) (v:=.w (.str (cut1 none (if q=0 then none else some (-(q:Int))) y1))) ?_ (by rw [ty])
    apply Ev.cutS (c:=none)
    ·walk_at "go"
    ·exact EvO.nil
    ·apply EvO.post; walk_at "go"
    ·exact EvO.nil
    ·rfl
   ·walk_at "setv"
   ·walk_at "auto"
  exact mid
end
noncomputable abbrev zM9:=stAt p3 9
noncomputable def vAt (os:List Int):Nat→Int
 | 0=>Builtin.bitAnd (os.getD 0 0) 63
 | k+1=>Builtin.bitOr (vAt os k*2 ^ (6:Int).toNat) (Builtin.bitAnd (os.getD (k+1) 0) 63)
noncomputable def zj1 (os:List Int) (rest:List W) (k:Nat):List W:=(os.drop k).map W.int++rest
theorem zK0 (os:List Int) (rest:List W) (k:Nat) (h:k<os.length):zj1 os rest k = .int (os.getD k 0)::zj1 os rest (k+1):=by
 unfold zj1
 rw [List.drop_eq_getElem_cons h]
 have e:os.getD k 0=os[k]:=by simp [List.getD,h]
 rw [e]; rfl
section
variable {K:Kc} {n:Nat} {σ:List (Addr × O)} {env:Env}
theorem zx8 {a0:Addr} {fd:FuncData} (D:DefAt K "_parse_varint" zM9 a0 fd) (n1:K.mg ("next" : Str)=none) (n2:K.mb ("next" : Str)=some (.builtin "next"))
  (a:Addr) (os:List Int) (rest:List W) (c:Nat) (hl:os.length=c+1) (hm : ∀ k,k<c→Builtin.bitAnd (os.getD k 0) 64≠0) (hs:Builtin.bitAnd (os.getD c 0) 64=0)
  (hz : ∀ k,k<c→(Builtin.Int.intBits (vAt os k):Int)+6≤2 ^ 27) :
  Calls K (n+1) "_parse_varint" [.ref a] ((a,.iter (zj1 os rest 0))::σ) (.w (.int (vAt os c))) ((a,.iter rest)::σ):=by
 have hr:zj1 os rest (c+1)=rest:=by unfold zj1; rw [← hl]; simp
 have hn : ∀ k,k≤c→∀ env:Env,env.scope=za4 zM9→∀ ρ:Lo,((("iterator" : Str),some (V.ref a)):Str × Option V)∈ρ.v→∀ p q r,Ev K n env ρ (.Call (.Name "next" p) [.Name "iterator" q] [] r) ((a,.iter (zj1 os rest k))::σ) (.w (.int (os.getD k 0))) ((a,.iter (zj1 os rest (k+1)))::σ):=by
  intro k hk env he ρ hρ p q r
  rw [zK0 os rest k (by lia)]
  apply Ev.callB
  ·exact za0 he (by kernel_rfl)
  ·exact n1
  ·exact n2
  ·exact Callee.builtin _
  ·apply Evs.cons
   ·exact Ev.name hρ (by decide +kernel)
   ·exact Evs.nil
   ·walk_at "auto"
  ·exact Fn.next SetO.head
  all_goals walk_at "auto"
 refine Calls.of D (Pars.ofN (l:=["b","val"]) rfl (by decide +kernel) (by decide +kernel)) (ρ':=⟨[("iterator",none),("b",none),("val",none)],[]⟩) (fun env he=>?_) (.inl rfl)
 show Ex K n env ⟨[("iterator",some (.ref a)),("b",none),("val",none)],[]⟩ _ _ _ _ _
 conv=>arg 6; whnf
 refine Ex.less (ρ₁:=⟨[("iterator",some (.ref a)),("b",some (.w (.int (os.getD c 0)))),("val",some (.w (.int (vAt os c))))],[]⟩) (σ₁:=(a,.iter (zj1 os rest (c+1)))::σ) ?_ ?_ ?_
 ·with_reducible apply Ex.cons
  ·with_reducible apply Ex1.assign
   ·exact hn 0 (by exact Nat.zero_le _) env he _ (by walk_at "mem") _ _ _
   ·walk_at "setv"
   ·walk_at "auto"
  (with_reducible apply Ex.cons; with_reducible apply Ex1.assign; walk_at "go"; walk_at "setv"; with_unfolding_all rfl)
  refine Ex.cons (ρ₁:=⟨[("iterator",some (.ref a)),("b",some (.w (.int (os.getD c 0)))),("val",some (.w (.int (vAt os c))))],[]⟩) (σ₁:=(a,.iter (zj1 os rest (c+1)))::σ) ?_ ?_
  ·refine Ex1.whileFrom (σ₁:=(a,.iter (zj1 os rest (c+1)))::σ) c (fun k=>⟨[("iterator",some (.ref a)),("b",some (.w (.int (os.getD k 0)))),("val",some (.w (.int (vAt os k))))],[]⟩) (fun k=>(a,.iter (zj1 os rest (k+1)))::σ) (fun k=>(a,.iter (zj1 os rest (k+1)))::σ) rfl rfl (fun k hk=>?_) (fun k hk=>?_) ?_ Ex.nil
   ·apply Ts.conv
    ·walk_at "go"
    ·simpa using hm k hk
   ·have e1:vAt os (k+1)=Builtin.bitOr (vAt os k*2 ^ (6:Int).toNat) (Builtin.bitAnd (os.getD (k+1) 0) 63):=rfl
    rw [e1]
    have hzk:=hz k hk
    with_reducible apply Ex.cons
    ·with_reducible apply Ex1.aug
     ·walk_at "mem"
     ·walk_at "go"
     ·exact Opn.ishlI (by decide) hzk
     ·walk_at "setv"
    with_reducible apply Ex.cons
    ·with_reducible apply Ex1.assign
     ·exact hn (k+1) (by lia) env he _ (by walk_at "mem") _ _ _
     ·walk_at "setv"
     ·walk_at "auto"
    with_reducible apply Ex.one
    with_reducible apply Ex1.aug
    ·walk_at "mem"
    ·walk_at "go"
    ·exact Opn.iorI
    ·walk_at "setv"
   ·apply Ts.conv
    ·walk_at "go"
    ·simpa using hs
  ·(with_reducible apply Ex.one; with_reducible apply Ex1.ret; walk_at "go")
 ·apply Less.none; rfl
 ·rw [hr]; exact List.Sublist.refl _
theorem and64 : ∀ x:Fin 64,Builtin.bitAnd (64+((x.val:Nat):Int)) 64=64:=by decide +kernel
theorem ym4 : ∀ x:Fin 64,Builtin.bitAnd (64+((x.val:Nat):Int)) 63=((x.val:Nat):Int):=by decide +kernel
theorem zC7 {a0:Addr} {fd:FuncData} (hd:K.hd=none) (D:DefAt K "_parse_varint" zM9 a0 fd) (n1:K.mg ("next" : Str)=none) (n2:K.mb ("next" : Str)=some (.builtin "next")) (a:Addr) (x:Nat) (hx:x<64) :
  FnX K (n+1) (.ref a0) [.ref a] ((a,.iter [.int (64+(x:Int))])::σ) "StopIteration" σ:=by
 refine FnX.of (ρ:=⟨[("iterator",some (.ref a)),("b",none),("val",none)],[]⟩) (ps:=zh6 zM9) D.fn D.body (fun us hu=>D.bind us (by rw [hu]; rfl)) ?_ (fun env he=>?_) (by rw [D.scope]; rfl) (by rw [D.scope]; rfl) (by rw [D.scope]; rfl)
 ·rw [D.scope]
  exact Pars.ofN (vs:=[.ref a]) (l:=["b","val"]) rfl (by decide +kernel) (by decide +kernel)
 ·rw [D.scope] at he
  have e1:=and64 ⟨x,hx⟩
  have e2:=ym4 ⟨x,hx⟩
  simp only at e1 e2
  conv=>arg 6; whnf
  refine ExY.cons (ρ₁:=⟨[("iterator",some (.ref a)),("b",some (.w (.int (64+(x:Int))))),("val",none)],[]⟩) (σ₁:=(a,.iter [])::σ) ?_ ?_
  ·with_reducible apply Ex1.assign
   ·apply Ev.callB
    ·exact za0 he (by kernel_rfl)
    ·exact n1
    ·exact n2
    ·exact Callee.builtin _
    ·walk_at "go"
    ·exact Fn.next SetO.head
    all_goals walk_at "auto"
   ·walk_at "setv"
   ·walk_at "auto"
  refine ExY.cons (ρ₁:=⟨[("iterator",some (.ref a)),("b",some (.w (.int (64+(x:Int))))),("val",some (.w (.int (x:Int))))],[]⟩) (σ₁:=(a,.iter [])::σ) ?_ ?_
  ·refine Ex1.assign (v:=.w (.int (x:Int))) (Ev.conv (v:=.w (.int (Builtin.bitAnd (64+(x:Int)) 63))) ?_ (by rw [e2])) (by walk_at "setv") (by rfl)
   walk_at "go"
  refine ExY.while (σ₁:=(a,.iter [])::σ) ?_ ?_
  ·refine Ts.val (x:=.int 64) (Ev.conv (v:=.w (.int (Builtin.bitAnd (64+(x:Int)) 64))) ?_ (by rw [e1])) (by decide)
   walk_at "go"
  ·refine ExX0.cons (ρ₁:=⟨[("iterator",some (.ref a)),("b",some (.w (.int (64+(x:Int))))),("val",some (.w (.int ((x:Int)*2 ^ (6:Int).toNat))))],[]⟩) (σ₁:=(a,.iter [])::σ) ?_ ?_
   ·with_reducible apply Ex1.aug
    ·walk_at "mem"
    ·walk_at "go"
    ·refine Opn.ishlI (by decide) ?_
     have:=intBits_le_64 (k:=(x:Int)) (by exact Int.natCast_nonneg _) (by omega)
     omega
    ·walk_at "setv"
   ·with_reducible apply ExX0.assign
    ·apply EvX0.callB
     ·exact za0 he (by kernel_rfl)
     ·exact n1
     ·exact n2
     ·exact Callee.builtin _
     ·walk_at "go"
     ·exact FnX0.next hd DelO.head
     all_goals walk_at "auto"
    ·walk_at "auto"
end
noncomputable abbrev yi0:=stAt p3 5
noncomputable def zh5 (T:List Nat):List Nat:=dots true (crlf T)
structure QuoK (K:Kc):Prop where
 cr : ∃ t,K.mg "CRLF" = some (.str ⟨#[13,10]⟩ t)
 r1 : ∃ a,K.mg "_twin_re_1" = some (.ref a)∧PatIn K.s₀.heap a rl1
 r2 : ∃ a,K.mg "_twin_re_2" = some (.ref a)∧PatIn K.s₀.heap a rl2
section
variable {K:Kc} {n:Nat} {σ:List (Addr × O)} {env:Env}
theorem zO8 (q:QuoK K) {a0:Addr} {fd:FuncData} (D:DefAt K "quotedata" yi0 a0 fd) (T:List Nat) (hT:T.length≤1000000) :
  Calls K (n+1) "quotedata" [.w (.str T)] σ (.w (.str (zh5 T))) σ:=by
 obtain ⟨hcr,⟨b1,h1,P1⟩,⟨b2,h2,P2⟩⟩:=q
 refine Calls.of D (Pars.ofN (l:=[]) rfl (by decide +kernel) (by decide +kernel)) (ρ':=⟨[("data",some (.w (.str T)))],[]⟩) (fun env he=>?_) (.inl rfl)
 show Ex K n env ⟨[("data",some (.w (.str T)))],[]⟩ _ _ _ _ _
 conv=>arg 6; whnf
 with_reducible apply Ex.one
 with_reducible apply Ex1.ret
 have l1:=ya5 T
 have l2:=zI7 true (crlf T)
 unfold zh5
 rw [← zy4]
 apply Ev.subG (σ₂:=σ) (za0 he (by kernel_rfl)) h1 nxOk1 P1 (by simp) (by decide +kernel)
 ·rw [zy4,sizeLine_eq]; lia
 ·apply Evs.cons
  ·exact Ev.cstr (by decide +kernel) (by rw [sizeLine_eq]; simp)
  ·apply Evs.cons
   ·rw [← zy3]
    apply Ev.subG (za0 he (by kernel_rfl)) h2 nxOk2 P2 (by simp) (by decide +kernel)
    ·rw [zy3,sizeLine_eq]; lia
    ·apply Evs.cons
     ·apply Ev.gstr
      ·exact za0 he (by kernel_rfl)
      ·rw [sizeLine_eq]; simp
      ·exact hcr
      ·decide +kernel
     ·apply Evs.cons
      ·walk_at "go"
      ·exact Evs.nil
      ·walk_at "auto"
     ·walk_at "auto"
    all_goals walk_at "auto"
   ·exact Evs.nil
   ·walk_at "auto"
  ·walk_at "auto"
 all_goals walk_at "auto"
end
noncomputable abbrev zY1:=stAt p3 11
noncomputable abbrev zW8:Stmt:=(zb6 zY1).getD 1 stD
noncomputable abbrev zA6:Stmt:=(zb6 zY1).getD 2 stD
noncomputable abbrev yi2:Stmt:=(zb6 zY1).getD 3 stD
noncomputable abbrev zf4:=stAt p3 22
noncomputable abbrev zD3:Stmt:=(zb6 zf4).getD 1 stD
theorem yg6 (full:List Nat) (p:Nat):cut1 (some (p:Int)) (some ((p:Int)+1)) full=(full.drop p).take 1:=by
 unfold cut1 ze1
 dsimp only
 rw [if_neg (by simp),if_neg (by lia)]
 have e1:((p:Int)+1).toNat=p+1:=by exact Int.toNat_natCast _
 rw [e1,Int.toNat_natCast]
 rcases Nat.lt_or_ge p full.length with h | h
 ·rw [Nat.min_eq_left (by exact Nat.le_of_lt ‹_›),Nat.min_eq_left (by assumption),List.drop_take]; congr 1; simp
 ·rw [Nat.min_eq_right (by trivial),Nat.min_eq_right (by exact Nat.le_succ_of_le ‹_›),List.take_length,List.drop_length,List.drop_eq_nil_of_le h]; rfl
theorem SetO.mid {σ σ':List (Addr × O)} {a:Addr} {o o2:O} (h:SetO σ a o o2 σ') (o1:O) : ∃ σ1,SetO σ a o o1 σ1∧SetO σ1 a o1 o2 σ':=by
 induction h with
 | head=>exact ⟨_,.head,.head⟩
 | tail h ih=>refine obEA ih fun σ1 h1 h2=>?_; exact ⟨_,.tail h1,.tail h2⟩
theorem SetO.mem {σ σ':List (Addr × O)} {a:Addr} {o o2:O} (h:SetO σ a o o2 σ'):(a,o)∈σ:=by
 refine zc7 h.split fun A B e1 e2=>?_; rw [e1]; simp
section
variable {K:Kc} {n:Nat} {σ σ':List (Addr × O)} {env:Env} {mN:Str→Option Value}
theorem rdB (hK:K.rdSt=zD3):RdB K n:=by
 intro cenv full place pl σ hce hz hp
 rw [hK] at hce ⊢
 conv=>arg 6; whnf
 have hidx : ∀ (v:Int) (p q r s),Ev K n cenv ⟨[("count",some (.w (.int 1)))],[("place",.ref pl),("text",.w (.str full))]⟩ (.Subscript (.Name "place" p) (.Constant (.int 0) q r) s) ((pl,.list [.int v])::σ) (.w (.int v)) ((pl,.list [.int v])::σ):=by
  intro v p q r s
  apply Ev.idxR (k:=0) (xs:=[.int v])
  ·walk_at "go"
  ·walk_at "go"
  ·walk_at "mem"
  ·lia
  ·rfl
 have e0:((place+1:Nat):Int)=(place:Int)+1:=by lia
 rw [e0]
 refine Ex.less (ρ₁:=⟨[("count",some (.w (.int 1)))],[("place",.ref pl),("text",.w (.str full))]⟩) (σ₁:=(pl,.list [.int ((place:Int)+1)])::σ) ?_ (by walk_at "less") (List.Sublist.refl _)
 refine Ex.cons (ρ₁:=⟨[("count",some (.w (.int 1)))],[("place",.ref pl),("text",.w (.str full))]⟩) (σ₁:=(pl,.list [.int ((place:Int)+1)])::σ) ?_ ?_
 ·apply Ex1.setItem (k:=0) (xs:=[.int place])
  ·apply Ev.bin
   ·exact hidx _ _ _ _ _
   ·walk_at "go"
   ·walk_at "go"
  ·walk_at "go"
  ·walk_at "go"
  ·exact ⟨by lia,by simp⟩
  ·exact SetO.head
 with_reducible apply Ex.one
 with_reducible apply Ex1.ret
 rw [← yg6]
 apply Ev.cutS (c:=none)
 ·walk_at "go"
 ·apply EvO.num
  have e:(place:Int)=((place:Int)+1) - 1:=by lia
  rw [e]
  rw [show (place:Int)+1 - 1+1=(place:Int)+1 by lia]
  apply Ev.bin
  ·exact hidx _ _ _ _ _
  ·walk_at "go"
  ·walk_at "go"
 ·apply EvO.num
  exact hidx _ _ _ _ _
 ·exact EvO.nil
 ·rfl
theorem rdSc (hK:K.rdSt=zD3):RdSc (za4 K.rdSt):=by
 rw [hK]
 exact ⟨by decide +kernel,by decide +kernel,by decide +kernel,by decide +kernel,rfl,rfl,rfl⟩
theorem yh9 (hK:K.rdSt=zD3) (LK:LexK K mN) {fd:FuncData} (D:MethAt K mN "_read_char" zW8 K.lexR fd):zs1 K (n+2):=by
 intro σ σ' l full place line push hpl hs
 have SC:=rdSc hK
 have B:RdB K n:=rdB hK
 refine FnC.of (ρ:=⟨[("self",some (.ref l)),("ch",none)],[]⟩) (ρ':=⟨[("self",none),("ch",none)],[]⟩) (ps:=zh6 zW8) (o:=.ret (.w (.str ((full.drop place).take 1)))) D.fn D.body (fun us hu=>D.bind us (by rw [hu]; rfl)) ?_ (fun env he=>?_) (.inl rfl) (by rw [D.scope]; rfl) (by rw [D.scope]; rfl) (by rw [D.scope]; rfl)
 ·rw [D.scope]
  exact Pars.ofN (vs:=[.ref l]) (l:=["ch"]) rfl (by decide +kernel) (by decide +kernel)
 rw [D.scope] at he
 conv=>arg 6; whnf
 refine obEA (hs.mid (.lex full (place+1) line push)) fun σ1 hs1 hs2=>?_
 refine Ex.less (ρ₁:=⟨[("self",some (.ref l)),("ch",some (.w (.str ((full.drop place).take 1))))],[]⟩) (σ₁:=σ') ?_ (Less.none rfl) (List.Sublist.refl _)
 with_reducible apply Ex.cons
 ·with_reducible apply Ex1.assign
  ·apply Ev.readStream LK SC B
   ·walk_at "go"
   ·exact hs1
   ·lia
   all_goals walk_at "auto"
  ·walk_at "setv"
  ·walk_at "auto"
 refine Ex.cons (ρ₁:=⟨[("self",some (.ref l)),("ch",some (.w (.str ((full.drop place).take 1))))],[]⟩) (σ₁:=σ') ?_ ?_
 ·by_cases h10:full[place]? = some 10
  ·rw [if_pos h10] at hs2
   apply Ex1.iteT
   ·with_reducible apply Ts.cmp
    ·walk_at "go"
    ·exact Ev.cstr (l:=[10]) (by decide +kernel) (by rw [sizeLine_eq]; simp)
    ·walk_at "go"
    ·walk_at "auto"
   ·obtain ⟨hlt,he⟩:=List.getElem?_eq_some_iff.mp h10
    rw [List.drop_eq_getElem_cons hlt,he]; simp
   ·with_reducible apply Ex.one
    exact Ex1.lexLine LK (by walk_at "go") hs2
  ·rw [if_neg h10] at hs2
   have e:σ1=σ':=by
    refine zc7 hs2.split fun A1 B1 q1 q2=>?_
    rw [q1,q2]
   subst e
   refine Ex1.skip (t:=false) ?_ rfl
   apply Ts.conv
   ·with_reducible apply Ts.cmp
    ·walk_at "go"
    ·exact Ev.cstr (l:=[10]) (by decide +kernel) (by rw [sizeLine_eq]; simp)
    ·walk_at "go"
    ·walk_at "auto"
   ·rw [decide_eq_false_iff_not]
    intro e
    apply h10
    cases h:full[place]? with
    | none=>rw [zn4 h] at e; cases e
    | some c =>
     obtain ⟨hlt,he⟩:=List.getElem?_eq_some_iff.mp h
     rw [List.drop_eq_getElem_cons hlt,he] at e
     simp at e; rw [e]
 ·(with_reducible apply Ex.one; with_reducible apply Ex1.ret; walk_at "go")
theorem zO9 (LK:LexK K mN) {f:Addr} {fd:FuncData} (D:MethAt K mN "push_token" yi2 f fd) {l:Addr} {full:List Nat} {place:Nat} {line:Int} {push:List W} {y:W} (hsz:push.length<sizeLine)
  (hs:SetO σ l (.lex full place line push) (.lex full place line (push++[y])) σ'):MCalls K mN (n+1) "push_token" [.ref l,.w y] σ (.w .none) σ':=by
 refine MCalls.of D (Pars.ofN (l:=[]) rfl (by decide +kernel) (by decide +kernel)) (ρ':=⟨[("self",some (.ref l)),("token",some (.w y))],[]⟩) (o:=.next) (fun env he=>?_) (.inr ⟨rfl,rfl⟩)
 show Ex K n env ⟨[("self",some (.ref l)),("token",some (.w y))],[]⟩ _ _ _ _ _
 conv=>arg 6; whnf
 with_reducible apply Ex.one
 refine Ex1.expr (v:=.w .none) ?_
 apply Ev.lexPush LK
 ·walk_at "go"
 ·walk_at "mem"
 ·exact hs
 ·exact hsz
end
noncomputable def ifA (l:List Stmt):List Stmt:=(stV (l.headD (.Pass ⟨0,0,0,0⟩))).body
noncomputable def ifB (l:List Stmt):List Stmt:=(stV (l.headD (.Pass ⟨0,0,0,0⟩))).other
noncomputable abbrev bodyO:List Stmt:=zK8 (zb6 zA6)
noncomputable abbrev zM5:List Stmt:=zK8 (ifA (bodyO.drop 1))
noncomputable abbrev zM4:List Stmt:=zK8 (ifB (bodyO.drop 1))
theorem SetO.app {A B:List (Addr × O)} {a:Addr} {o o':O}:SetO (A++(a,o)::B) a o o' (A++(a,o')::B):=by
 induction A with
 | nil=>exact .head
 | cons x A ih=>exact .tail ih
theorem zd2 {full:List Nat} {p c:Nat} {r:List Nat} (h:full.drop p=c::r):full[p]? = some c∧full.drop (p+1)=r:=by
 have hl:p<full.length:=by
  rcases Nat.lt_or_ge p full.length with h2 | h2
  ·exact h2
  ·rw [List.drop_eq_nil_of_le h2] at h; cases h
 rw [List.drop_eq_getElem_cons hl] at h
 simp only [List.cons.injEq] at h
 exact ⟨by rw [List.getElem?_eq_getElem hl,h.1],h.2⟩
theorem zo5 {full:List Nat} {p:Nat} (h:full.drop p=[]):full[p]? = none∧full.drop (p+1)=[]:=by
 have hl:full.length≤p:=List.drop_eq_nil_iff.mp h
 exact ⟨List.getElem?_eq_none_iff.mpr hl,List.drop_eq_nil_of_le (by exact Nat.le_succ_of_le ‹_›)⟩
structure TokK (K:Kc) (mN:Str→Option Value) (n:Nat):Prop where
 LK:LexK K mN
 RC:zs1 K n
 rm : ∃ fd,MethAt K mN "_read_char" zW8 K.lexR fd
section
variable {K:Kc} {n:Nat} {σ σ' σ₁:List (Addr × O)} {env:Env} {ρ ρ':Lo} {mN:Str→Option Value}
theorem TokK.hF (T:TokK K mN n) : ∃ o fd,K.s₀.heap.get? K.lexR=some o∧o.data = .func fd:=by
 obtain ⟨fd,D⟩:=T.rm
 refine obEA D.fn.get fun o h1 h2=>?_
 exact ⟨o,fd,h1,h2⟩
theorem TokK.read (T:TokK K mN n) {l:Addr} {full:List Nat} {place:Nat} {line:Int} {push:List W} (hpl:(place:Int)<2 ^ 59)
  (hs:SetO σ l (.lex full place line push) (.lex full (place+1) (if full[place]? = some 10 then line+1 else line) push) σ') :
  MCalls K mN (n+1) "_read_char" [.ref l] σ (.w (.str ((full.drop place).take 1))) σ':=by
 obtain ⟨fd,D⟩:=T.rm
 exact ⟨K.lexR,fd,D.nm,D.fn,D.cls,(T.RC σ σ' l full place line push hpl hs).fn.mono (Nat.le_succ n)⟩
theorem zR3 {l t1 f t2 p}:zb5 l t1 f t2 p "_read_char" = none:=by
 unfold zb5; rw [if_neg (by decide +kernel),if_neg (by decide +kernel),if_neg (by decide +kernel),if_neg (by decide +kernel)]
theorem zy0 {y q:List Nat} {x z:Str} {k p pk pos} (hz:z=⟨q.toArray⟩) (hq:q.length≤1) (hx:(x,some (V.w (.str y)))∈ρ.v) (hd:(x==("__debug__" : Str))=false):Ts K n env ρ (.Compare (.Name x p) [.Eq] [.Constant (.str z) k pk] pos) σ (decide (y=q)) σ:=by
 apply Ts.cmp
 ·exact Ev.name hx hd
 ·exact Ev.cstr hz (by rw [sizeLine_eq]; exact Nat.le_trans ‹_› (by decide))
 ·exact Opn.eqS
 ·rfl
theorem zC9 {m:Nat} (T:TokK K mN n) {l:Addr} {full place line push} {c:Nat} (hc:c<128) {x y:Str} {p p1 p2 pos} (hx:(x,some (V.w (.str [c])))∈ρ.v) (hd:(x==("__debug__" : Str))=false)
  (hy:(y,some (V.ref l))∈ρ.v) (hyd:(y==("__debug__" : Str))=false) (hm:(l,O.lex full place line push)∈σ):Ts K m env ρ (.Compare (.Name x p) [.In] [.Attribute (.Name y p1) ("whitespace" : Str) p2] pos) σ (isWs c) σ:=by
 apply Ts.cmp
 ·exact Ev.name hx hd
 ·exact Ev.lexWs (e:=.Name y p1) T.LK (Ev.name hy hyd) hm
 ·exact Opn.inS (ws_eq hc)
 ·rfl
theorem zT5 (T:TokK K mN n) {l c:Addr} {tok:List Nat} {full:List Nat} {place:Nat} {line:Int} {push:List W} (hpl:(place:Int)<2 ^ 59) {y0:Nat} (hy:y0=92)
  (hs:SetO σ l (.lex full place line push) (.lex full (place+1) (if full[place]? = some 10 then line+1 else line) push) σ') {z:Str} (hz:z=⟨[92].toArray⟩) {p pk k pos p1 p2 p3 p4 p5 pos2}
  (hl1:(p3.endLine==p4.line)=true) (hsw:swapsWith (.Call (.Attribute (.Name ("self" : Str) p2) ("_read_char" : Str) p3) [] [] p4) (some (.Name ("ch" : Str) p1)) p5.line env=pure false)
  (hb:attributeBase (.Name ("self" : Str) p2) ("_read_char" : Str) env (eval (.Name ("self" : Str) p2) env)=eval (.Name ("self" : Str) p2) env) :
  Ex1 K (n+1) env ⟨[("self",some (.ref l)),("token",some (.w (.str tok))),("fiter",some (.ref c)),("ch",some (.w (.str [y0])))],[]⟩ σ (.If (.Compare (.Name ("ch" : Str) p) [.Eq] [.Constant (.str z) k pk] pos) [.Assign [.Name ("ch" : Str) p1] (.Call (.Attribute (.Name ("self" : Str) p2) ("_read_char" : Str) p3) [] [] p4) p5] [] pos2) .next
   ⟨[("self",some (.ref l)),("token",some (.w (.str tok))),("fiter",some (.ref c)),("ch",some (.w (.str ((full.drop place).take 1))))],[]⟩ σ':=by
 apply Ex1.iteT
 ·exact zy0 hz (by simp) (by walk_at "mem") (by decide +kernel)
 ·subst hy; rfl
 ·apply Ex.one
  with_reducible apply Ex1.assign
  ·exact Ev.methO T.LK (Ev.name (v:=.ref l) (by walk_at "mem") (by decide +kernel)) hs.mem zH0 (fun _ _ _ _ _=>zR3) Evs.nil (T.read hpl hs) hb (by decide) hl1 rfl
  ·walk_at "setv"
  ·exact hsw
theorem zT4 {l c:Addr} {tok:List Nat} {y0:Nat} (hy:y0≠92) {z:Str} (hz:z=⟨[92].toArray⟩) {p pk k pos ss pos2} :
  Ex1 K (n+1) env ⟨[("self",some (.ref l)),("token",some (.w (.str tok))),("fiter",some (.ref c)),("ch",some (.w (.str [y0])))],[]⟩ σ (.If (.Compare (.Name ("ch" : Str) p) [.Eq] [.Constant (.str z) k pk] pos) ss [] pos2) .next
   ⟨[("self",some (.ref l)),("token",some (.w (.str tok))),("fiter",some (.ref c)),("ch",some (.w (.str [y0])))],[]⟩ σ:=by
 refine Ex1.skip (zy0 hz (by simp) (by walk_at "mem") (by decide +kernel)) ?_
 rw [decide_eq_false_iff_not]; intro e; simp at e; exact hy e
theorem q_ret {l c:Addr} {tok:List Nat}:Ex K (n+1) env ⟨[("self",some (.ref l)),("token",some (.w (.str tok))),("fiter",some (.ref c)),("ch",some (.w (.str [34])))],[]⟩ σ zM5 (.ret (.w (.str tok))) ⟨[("self",some (.ref l)),("token",some (.w (.str tok))),("fiter",some (.ref c)),("ch",none)],[]⟩ σ:=by
 refine Ex.less (ρ₁:=⟨[("self",some (.ref l)),("token",some (.w (.str tok))),("fiter",some (.ref c)),("ch",some (.w (.str [34])))],[]⟩) (σ₁:=σ) ?_ (by walk_at "less") (List.Sublist.refl _)
 conv=>arg 6; whnf
 refine Ex.ifT (zy0 (q:=[34]) (by decide +kernel) (by simp) (by walk_at "mem") (by decide +kernel)) rfl ?_ (by simp)
 (with_reducible apply Ex.one; with_reducible apply Ex1.ret; walk_at "go")
theorem yi1 (T:TokK K mN n) {l c:Addr} {tok:List Nat} {full:List Nat} {place:Nat} {line:Int} {push:List W} (hpl:(place:Int)<2 ^ 59) (hz:tok.length+((full.drop place).take 1).length≤sizeLine)
  (hs:SetO σ l (.lex full place line push) (.lex full (place+1) (if full[place]? = some 10 then line+1 else line) push) σ') :
  Ex K (n+1) env ⟨[("self",some (.ref l)),("token",some (.w (.str tok))),("fiter",some (.ref c)),("ch",some (.w (.str [92])))],[]⟩ σ zM5 .next ⟨[("self",some (.ref l)),("token",some (.w (.str (tok++(full.drop place).take 1)))),("fiter",some (.ref c)),("ch",none)],[]⟩ σ':=by
 refine Ex.less (ρ₁:=⟨[("self",some (.ref l)),("token",some (.w (.str (tok++(full.drop place).take 1)))),("fiter",some (.ref c)),("ch",some (.w (.str ((full.drop place).take 1))))],[]⟩) (σ₁:=σ') ?_ (by walk_at "less") (List.Sublist.refl _)
 conv=>arg 6; whnf
 refine Ex.cons (Ex1.iteF (zy0 (q:=[34]) (by decide +kernel) (by simp) (by walk_at "mem") (by decide +kernel)) rfl (Ex.one (zT5 T hpl rfl hs (by decide +kernel) (by rfl) (by rfl) (by rfl)))) ?_
 with_reducible apply Ex.one
 apply Ex1.aug
 ·walk_at "mem"
 ·walk_at "go"
 ·exact Opn.iaddS hz
 ·walk_at "setv"
 all_goals walk_at "auto"
theorem q_ord {l c:Addr} {tok:List Nat} {y:Nat} (h1:y≠34) (h2:y≠92) (hz:tok.length+1≤sizeLine) :
  Ex K (n+1) env ⟨[("self",some (.ref l)),("token",some (.w (.str tok))),("fiter",some (.ref c)),("ch",some (.w (.str [y])))],[]⟩ σ zM5 .next ⟨[("self",some (.ref l)),("token",some (.w (.str (tok++[y])))),("fiter",some (.ref c)),("ch",none)],[]⟩ σ:=by
 refine Ex.less (ρ₁:=⟨[("self",some (.ref l)),("token",some (.w (.str (tok++[y])))),("fiter",some (.ref c)),("ch",some (.w (.str [y])))],[]⟩) (σ₁:=σ) ?_ (by walk_at "less") (List.Sublist.refl _)
 conv=>arg 6; whnf
 refine Ex.cons (Ex1.iteF (zy0 (q:=[34]) (by decide +kernel) (by simp) (by walk_at "mem") (by decide +kernel)) (by simpa using h1) (Ex.one (zT4 h2 (by decide +kernel)))) ?_
 with_reducible apply Ex.one
 apply Ex1.aug
 ·walk_at "mem"
 ·walk_at "go"
 ·exact Opn.iaddS hz
 ·walk_at "setv"
 all_goals walk_at "auto"
end
section
variable {K:Kc} {n:Nat} {σ σ' σ₁:List (Addr × O)} {env:Env} {ρ ρ':Lo} {mN:Str→Option Value} {l c:Addr} {tok full:List Nat} {place p:Nat} {line ln:Int} {push:List W} {A B:List (Addr × O)}
theorem w_ret (T:TokK K mN n) {y:Nat} (hc:y<128) (hw:isWs y=true) (hm:(l,O.lex full place line push)∈σ):Ex K (n+1) env ⟨[("self",some (.ref l)),("token",some (.w (.str tok))),("fiter",some (.ref c)),("ch",some (.w (.str [y])))],[]⟩ σ zM4 (.ret (.w (.str tok))) ⟨[("self",some (.ref l)),("token",some (.w (.str tok))),("fiter",some (.ref c)),("ch",none)],[]⟩ σ:=by
 refine Ex.less (ρ₁:=⟨[("self",some (.ref l)),("token",some (.w (.str tok))),("fiter",some (.ref c)),("ch",some (.w (.str [y])))],[]⟩) (σ₁:=σ) ?_ (by walk_at "less") (List.Sublist.refl _)
 conv=>arg 6; whnf
 refine Ex.ifT (zC9 T hc (by walk_at "mem") (by decide +kernel) (by walk_at "mem") (by decide +kernel) hm) hw ?_ (by simp)
 (with_reducible apply Ex.one; with_reducible apply Ex1.ret; walk_at "go")
theorem yh5 (T:TokK K mN n) (hpl:(place:Int)<2 ^ 59) (hz:tok.length+((full.drop place).take 1).length≤sizeLine)
  (hs:SetO σ l (.lex full place line push) (.lex full (place+1) (if full[place]? = some 10 then line+1 else line) push) σ') :
  Ex K (n+1) env ⟨[("self",some (.ref l)),("token",some (.w (.str tok))),("fiter",some (.ref c)),("ch",some (.w (.str [92])))],[]⟩ σ zM4 .next ⟨[("self",some (.ref l)),("token",some (.w (.str (tok++(full.drop place).take 1)))),("fiter",some (.ref c)),("ch",none)],[]⟩ σ':=by
 refine Ex.less (ρ₁:=⟨[("self",some (.ref l)),("token",some (.w (.str (tok++(full.drop place).take 1)))),("fiter",some (.ref c)),("ch",some (.w (.str ((full.drop place).take 1))))],[]⟩) (σ₁:=σ') ?_ (by walk_at "less") (List.Sublist.refl _)
 conv=>arg 6; whnf
 refine Ex.cons (Ex1.iteF (zC9 T (c:=92) (by lia) (by walk_at "mem") (by decide +kernel) (by walk_at "mem") (by decide +kernel) hs.mem) (by decide) (Ex.one (zT5 T hpl rfl hs (by decide +kernel) (by rfl) (by rfl) (by rfl)))) ?_
 with_reducible apply Ex.one
 apply Ex1.aug
 ·walk_at "mem"
 ·walk_at "go"
 ·exact Opn.iaddS hz
 ·walk_at "setv"
 all_goals walk_at "auto"
theorem w_ord (T:TokK K mN n) {y:Nat} (hc:y<128) (h1:isWs y=false) (h2:y≠92) (hz:tok.length+1≤sizeLine) (hm:(l,O.lex full place line push)∈σ) :
  Ex K (n+1) env ⟨[("self",some (.ref l)),("token",some (.w (.str tok))),("fiter",some (.ref c)),("ch",some (.w (.str [y])))],[]⟩ σ zM4 .next ⟨[("self",some (.ref l)),("token",some (.w (.str (tok++[y])))),("fiter",some (.ref c)),("ch",none)],[]⟩ σ:=by
 refine Ex.less (ρ₁:=⟨[("self",some (.ref l)),("token",some (.w (.str (tok++[y])))),("fiter",some (.ref c)),("ch",some (.w (.str [y])))],[]⟩) (σ₁:=σ) ?_ (by walk_at "less") (List.Sublist.refl _)
 conv=>arg 6; whnf
 refine Ex.cons (Ex1.iteF (zC9 T hc (by walk_at "mem") (by decide +kernel) (by walk_at "mem") (by decide +kernel) hm) h1 (Ex.one (zT4 h2 (by decide +kernel)))) ?_
 with_reducible apply Ex.one
 apply Ex1.aug
 ·walk_at "mem"
 ·walk_at "go"
 ·exact Opn.iaddS hz
 ·walk_at "setv"
 all_goals walk_at "auto"
theorem zB8 {y:Nat} {r:List Nat} (h:full.drop p=y::r) (hp:(p:Int)<2 ^ 59):CNext c ((c,.citer l false)::(A++(l,.lex full p ln push)::B)) (some y) ((c,.citer l false)::(A++(l,.lex full (p+1) (if y=10 then ln+1 else ln) push)::B)) :=
 .got (by simp) (by simp) hp (zd2 h).1 (.tail SetO.app)
theorem ym1 (h:full.drop p=[]) (hp:(p:Int)<2 ^ 59):CNext c ((c,.citer l false)::(A++(l,.lex full p ln push)::B)) none ((c,.citer l true)::(A++(l,.lex full (p+1) ln push)::B)) :=
 .eof (by simp) hp (zo5 h).1 (.tail SetO.app) .head
noncomputable def LRes (K:Kc) (n:Nat) (env:Env) (c l:Addr) (body:List Stmt) (A B:List (Addr × O)) (full:List Nat) (push:List W) (p:Nat) (ln:Int) (tok tf:List Nat) (q:Nat) (lf:Int):Prop :=
 ∃ k,LoopR K (n+1) env c "ch" body k ⟨[("self",some (.ref l)),("token",some (.w (.str tok))),("fiter",some (.ref c)),("ch",none)],[]⟩ ((c,.citer l false)::(A++(l,.lex full p ln push)::B)) (.ret (.w (.str tf))) ⟨[("self",some (.ref l)),("token",some (.w (.str tf))),("fiter",some (.ref c)),("ch",none)],[]⟩ ((c,.citer l false)::(A++(l,.lex full q lf push)::B))
  ∨ LoopR K (n+1) env c "ch" body k ⟨[("self",some (.ref l)),("token",some (.w (.str tok))),("fiter",some (.ref c)),("ch",none)],[]⟩ ((c,.citer l false)::(A++(l,.lex full p ln push)::B)) .next ⟨[("self",some (.ref l)),("token",some (.w (.str tf))),("fiter",some (.ref c)),("ch",none)],[]⟩ ((c,.citer l true)::(A++(l,.lex full q lf push)::B))
theorem LRes.turn {body:List Stmt} {tok tok' tf:List Nat} {y:Nat} {r:List Nat} {p' q q':Nat} {ln' lf lf':Int} (h:full.drop p=y::r) (hp:(p:Int)<2 ^ 59)
  (hb:Ex K (n+1) env ⟨[("self",some (.ref l)),("token",some (.w (.str tok))),("fiter",some (.ref c)),("ch",some (.w (.str [y])))],[]⟩ ((c,.citer l false)::(A++(l,.lex full (p+1) (if y=10 then ln+1 else ln) push)::B)) body .next ⟨[("self",some (.ref l)),("token",some (.w (.str tok'))),("fiter",some (.ref c)),("ch",none)],[]⟩ ((c,.citer l false)::(A++(l,.lex full p' ln' push)::B))
   ∨ Ex K (n+1) env ⟨[("self",some (.ref l)),("token",some (.w (.str tok))),("fiter",some (.ref c)),("ch",some (.w (.str [y])))],[]⟩ ((c,.citer l false)::(A++(l,.lex full (p+1) (if y=10 then ln+1 else ln) push)::B)) body .cont ⟨[("self",some (.ref l)),("token",some (.w (.str tok'))),("fiter",some (.ref c)),("ch",none)],[]⟩ ((c,.citer l false)::(A++(l,.lex full p' ln' push)::B)))
  (L:LRes K n env c l body A B full push p' ln' tok' tf q' lf') (hq:q=q') (hl:lf=lf'):LRes K n env c l body A B full push p ln tok tf q lf:=by
 subst hq hl
 obtain ⟨k,L | L⟩:=L
 ·exact ⟨k+1,.inl (.turn (zB8 h hp) (by walk_at "setv") hb L)⟩
 ·exact ⟨k+1,.inr (.turn (zB8 h hp) (by walk_at "setv") hb L)⟩
theorem LRes.eof {body:List Stmt} (h:full.drop p=[]) (hp:(p:Int)<2 ^ 59):LRes K n env c l body A B full push p ln tok tok (p+1) ln:=⟨0,.inr (.stop (ym1 h hp))⟩
theorem LRes.ret {body:List Stmt} {tf:List Nat} {y:Nat} {r:List Nat} {q:Nat} {lf:Int} (h:full.drop p=y::r) (hp:(p:Int)<2 ^ 59)
  (hb:Ex K (n+1) env ⟨[("self",some (.ref l)),("token",some (.w (.str tok))),("fiter",some (.ref c)),("ch",some (.w (.str [y])))],[]⟩ ((c,.citer l false)::(A++(l,.lex full (p+1) (if y=10 then ln+1 else ln) push)::B)) body (.ret (.w (.str tf))) ⟨[("self",some (.ref l)),("token",some (.w (.str tf))),("fiter",some (.ref c)),("ch",none)],[]⟩ ((c,.citer l false)::(A++(l,.lex full q lf push)::B))) :
  LRes K n env c l body A B full push p ln tok tf q lf:=⟨0,.inl (.ret (zB8 h hp) (by walk_at "setv") hb)⟩
theorem loopQ (T:TokK K mN n) (r:List Nat) (hr:full.drop p=r) (hp:(p:Int)+r.length+4<2 ^ 59) (hz:tok.length+r.length≤sizeLine):LRes K n env c l zM5 A B full push p ln tok (tok++(tokQ r).1) (p+(tokQ r).2) (lnUp r ln (tokQ r).2):=by
 fun_induction tokQ r generalizing p ln tok with
 | case1 =>
  rw [List.append_nil]
  exact LRes.eof hr (by simp at hp; lia)
 | case2 r => 
  simp only [List.append_nil]
  exact LRes.ret hr (by simp at hp; lia) q_ret
 | case3 =>
  have hd:=(zd2 hr).2
  have he:=zo5 hd
  simp only [List.append_nil]
  simp at hp
  have hb:=yi1 (K:=K) (n:=n) (env:=env) (l:=l) (c:=c) (tok:=tok) (σ:=(c,.citer l false)::(A++(l,.lex full (p+1) ln push)::B)) T (push:=push) (line:=ln) (place:=p+1) (by lia) (by rw [hd]; simp; simp at hz; lia) (.tail SetO.app)
  rw [hd,he.1] at hb
  simp only [List.take_nil,List.append_nil,reduceCtorEq,if_false] at hb
  exact LRes.turn (p':=p+1+1) (ln':=ln) hr (by lia) (.inl hb) (LRes.eof he.2 (by lia)) rfl rfl
 | case4 y r ih =>
  have hd:=(zd2 hr).2
  have he:=zd2 hd
  simp only [List.length_cons] at hp hz
  have hb:=yi1 (K:=K) (n:=n) (env:=env) (l:=l) (c:=c) (tok:=tok) (σ:=(c,.citer l false)::(A++(l,.lex full (p+1) ln push)::B)) T (push:=push) (line:=ln) (place:=p+1) (by lia) (by rw [hd]; simp; lia) (.tail SetO.app)
  rw [hd,he.1] at hb
  simp only [List.take_succ_cons,List.take_zero,Option.some.injEq] at hb
  have L:=ih (p:=p+1+1) (ln:=if y=10 then ln+1 else ln) (tok:=tok++[y]) he.2 (by lia) (by simp; lia)
  rw [List.append_assoc] at L
  exact LRes.turn (p':=p+1+1) (ln':=if y=10 then ln+1 else ln) hr (by lia) (.inl hb) L (by lia) rfl
 | case5 y r h1 h2 h3 ih =>
  have hd:=(zd2 hr).2
  simp only [List.length_cons] at hp hz
  have n92:y≠92:=by
   intro e
   cases r with
   | nil=>exact h2 e rfl
   | cons d r=>exact h3 d r e rfl
  have L:=ih (p:=p+1) (ln:=if y=10 then ln+1 else ln) (tok:=tok++[y]) hd (by lia) (by simp; lia)
  rw [List.append_assoc] at L
  exact LRes.turn (p':=p+1) (ln':=if y=10 then ln+1 else ln) hr (by lia) (.inl (q_ord (fun e=>h1 e) n92 (by lia))) L (by lia) rfl
theorem ye0 (T:TokK K mN n) (hc : ∀ d∈full,d<128) (r:List Nat) (hr:full.drop p=r) (hp:(p:Int)+r.length+4<2 ^ 59) (hz:tok.length+r.length≤sizeLine):LRes K n env c l zM4 A B full push p ln tok (tok++(tokW r).1) (p+(tokW r).2) (lnUp r ln (tokW r).2):=by
 have hm : ∀ {q:Nat} {lq:Int},(l,O.lex full q lq push)∈((c,O.citer l false)::(A++(l,O.lex full q lq push)::B)):=by intros; simp
 have hch : ∀ {y:Nat} {r:List Nat} {p:Nat},full.drop p=y::r→y<128:=fun h=>hc _ (List.mem_of_mem_drop (h ▸ List.mem_cons_self))
 fun_induction tokW r generalizing p ln tok with
 | case1 =>
  rw [List.append_nil]
  exact LRes.eof hr (by simp at hp; lia)
 | case2 =>
  have hd:=(zd2 hr).2
  have he:=zo5 hd
  simp only [List.append_nil]
  simp at hp
  have hb:=yh5 (K:=K) (n:=n) (env:=env) (l:=l) (c:=c) (tok:=tok) (σ:=(c,.citer l false)::(A++(l,.lex full (p+1) ln push)::B)) T (push:=push) (line:=ln) (place:=p+1) (by lia) (by rw [hd]; simp; simp at hz; lia) (.tail SetO.app)
  rw [hd,he.1] at hb
  simp only [List.take_nil,List.append_nil,reduceCtorEq,if_false] at hb
  exact LRes.turn (p':=p+1+1) (ln':=ln) hr (by lia) (.inl hb) (LRes.eof he.2 (by lia)) rfl rfl
 | case3 y r ih =>
  have hd:=(zd2 hr).2
  have he:=zd2 hd
  simp only [List.length_cons] at hp hz
  have hb:=yh5 (K:=K) (n:=n) (env:=env) (l:=l) (c:=c) (tok:=tok) (σ:=(c,.citer l false)::(A++(l,.lex full (p+1) ln push)::B)) T (push:=push) (line:=ln) (place:=p+1) (by lia) (by rw [hd]; simp; lia) (.tail SetO.app)
  rw [hd,he.1] at hb
  simp only [List.take_succ_cons,List.take_zero,Option.some.injEq] at hb
  have L:=ih (p:=p+1+1) (ln:=if y=10 then ln+1 else ln) (tok:=tok++[y]) he.2 (by lia) (by simp; lia)
  rw [List.append_assoc] at L
  exact LRes.turn (p':=p+1+1) (ln':=if y=10 then ln+1 else ln) hr (by lia) (.inl hb) L (by lia) rfl
 | case4 y r h2 h3 hw =>
  rw [List.append_nil]
  exact LRes.ret hr (by simp at hp; lia) (w_ret T (hch hr) hw hm)
 | case5 y r h2 h3 hw ih =>
  have hd:=(zd2 hr).2
  simp only [List.length_cons] at hp hz
  have n92:y≠92:=by
   intro e
   cases r with
   | nil=>exact h2 e rfl
   | cons d r=>exact h3 d r e rfl
  have L:=ih (p:=p+1) (ln:=if y=10 then ln+1 else ln) (tok:=tok++[y]) hd (by lia) (by simp; lia)
  rw [List.append_assoc] at L
  exact LRes.turn (p':=p+1) (ln':=if y=10 then ln+1 else ln) hr (by lia) (.inl (w_ord T (hch hr) (by simpa using hw) n92 (by lia) hm)) L (by lia) rfl
end
noncomputable abbrev stQ:Stmt:=(ifA (bodyO.drop 1)).getD 0 stD
noncomputable abbrev stW:Stmt:=(ifB (bodyO.drop 1)).getD 2 stD
section
variable {K:Kc} {n:Nat} {σ σ' σ₁:List (Addr × O)} {env:Env} {ρ ρ' ρ₁:Lo} {mN:Str→Option Value} {l c:Addr} {tok full:List Nat} {place p:Nat} {line ln:Int} {push:List W} {A B:List (Addr × O)}
theorem Ex.pre {ss:List Stmt} {o:Out} (h1:Ex K n env ρ₁ σ₁ ss o ρ' σ') (hρ:Less ρ ρ₁) (hσ:σ₁.Sublist σ):Ex K n env ρ σ ss o ρ' σ':=.mk fun _ _ _ _ _ F R h=>h1 F (R.less hρ hσ) h
theorem o_ws (T:TokK K mN n) {y:Nat} (hc:y<128) (hw:isWs y=true) (hm:(l,O.lex full place line push)∈σ):Ex K (n+1) env ⟨[("self",some (.ref l)),("token",some (.w (.str tok))),("fiter",some (.ref c)),("ch",some (.w (.str [y])))],[]⟩ σ bodyO .cont ⟨[("self",some (.ref l)),("token",some (.w (.str tok))),("fiter",some (.ref c)),("ch",none)],[]⟩ σ:=by
 refine Ex.less (ρ₁:=⟨[("self",some (.ref l)),("token",some (.w (.str tok))),("fiter",some (.ref c)),("ch",some (.w (.str [y])))],[]⟩) (σ₁:=σ) ?_ (by walk_at "less") (List.Sublist.refl _)
 conv=>arg 6; whnf
 refine Ex.ifT (zC9 T hc (by walk_at "mem") (by decide +kernel) (by walk_at "mem") (by decide +kernel) hm) hw ?_ (by simp)
 exact Ex.one Ex1.cont
theorem o_quo (T:TokK K mN n) {o:Out} (hm:(l,O.lex full place line push)∈σ) (h:Ex1 K (n+1) env ⟨[("self",some (.ref l)),("token",some (.w (.str tok))),("fiter",some (.ref c)),("ch",none)],[]⟩ σ stQ o ρ' σ'):Ex K (n+1) env ⟨[("self",some (.ref l)),("token",some (.w (.str tok))),("fiter",some (.ref c)),("ch",some (.w (.str [34])))],[]⟩ σ bodyO o ρ' σ':=by
 conv=>arg 6; whnf
 refine Ex.cons (Ex1.skip (zC9 T (c:=34) (by exact Nat.le_add_left _ _) (by walk_at "mem") (by decide +kernel) (by walk_at "mem") (by decide +kernel) hm) (by decide)) ?_
 refine Ex.one (Ex1.iteT (zy0 (q:=[34]) (by decide +kernel) (by simp) (by walk_at "mem") (by decide +kernel)) rfl ?_)
 exact Ex.pre (Ex.one h) (by walk_at "less") (List.Sublist.refl _)
theorem yi8 (T:TokK K mN n) {o:Out} (hpl:(place:Int)<2 ^ 59) (hz:tok.length+((full.drop place).take 1).length≤sizeLine)
  (hs:SetO σ l (.lex full place line push) (.lex full (place+1) (if full[place]? = some 10 then line+1 else line) push) σ₁)
  (h:Ex1 K (n+1) env ⟨[("self",some (.ref l)),("token",some (.w (.str (tok++(full.drop place).take 1)))),("fiter",some (.ref c)),("ch",none)],[]⟩ σ₁ stW o ρ' σ'):Ex K (n+1) env ⟨[("self",some (.ref l)),("token",some (.w (.str tok))),("fiter",some (.ref c)),("ch",some (.w (.str [92])))],[]⟩ σ bodyO o ρ' σ':=by
 conv=>arg 6; whnf
 refine Ex.cons (Ex1.skip (zC9 T (c:=92) (by lia) (by walk_at "mem") (by decide +kernel) (by walk_at "mem") (by decide +kernel) hs.mem) (by decide)) ?_
 refine Ex.one (Ex1.iteF (zy0 (q:=[34]) (by decide +kernel) (by simp) (by walk_at "mem") (by decide +kernel)) rfl ?_)
 refine Ex.cons (zT5 T hpl rfl hs (by decide +kernel) (by rfl) (by rfl) (by rfl)) ?_
 refine Ex.cons (ρ₁:=⟨[("self",some (.ref l)),("token",some (.w (.str (tok++(full.drop place).take 1)))),("fiter",some (.ref c)),("ch",some (.w (.str ((full.drop place).take 1))))],[]⟩) (σ₁:=σ₁) ?_ ?_
 ·apply Ex1.aug
  ·walk_at "mem"
  ·walk_at "go"
  ·exact Opn.iaddS hz
  ·walk_at "setv"
  all_goals walk_at "auto"
 ·exact Ex.pre (Ex.one h) (by walk_at "less") (List.Sublist.refl _)
theorem o_ord (T:TokK K mN n) {o:Out} {y:Nat} (hc:y<128) (h1:isWs y=false) (h2:y≠92) (h3:y≠34) (hz:tok.length+1≤sizeLine) (hm:(l,O.lex full place line push)∈σ)
  (h:Ex1 K (n+1) env ⟨[("self",some (.ref l)),("token",some (.w (.str (tok++[y])))),("fiter",some (.ref c)),("ch",none)],[]⟩ σ stW o ρ' σ'):Ex K (n+1) env ⟨[("self",some (.ref l)),("token",some (.w (.str tok))),("fiter",some (.ref c)),("ch",some (.w (.str [y])))],[]⟩ σ bodyO o ρ' σ':=by
 conv=>arg 6; whnf
 refine Ex.cons (Ex1.skip (zC9 T hc (by walk_at "mem") (by decide +kernel) (by walk_at "mem") (by decide +kernel) hm) h1) ?_
 refine Ex.one (Ex1.iteF (zy0 (q:=[34]) (by decide +kernel) (by simp) (by walk_at "mem") (by decide +kernel)) (by simpa using h3) ?_)
 refine Ex.cons (zT4 h2 (by decide +kernel)) ?_
 refine Ex.cons (ρ₁:=⟨[("self",some (.ref l)),("token",some (.w (.str (tok++[y])))),("fiter",some (.ref c)),("ch",some (.w (.str [y])))],[]⟩) (σ₁:=σ) ?_ ?_
 ·apply Ex1.aug
  ·walk_at "mem"
  ·walk_at "go"
  ·exact Opn.iaddS hz
  ·walk_at "setv"
  all_goals walk_at "auto"
 ·exact Ex.pre (Ex.one h) (by walk_at "less") (List.Sublist.refl _)
theorem LRes.st (T:TokK K mN n) {body:List Stmt} {tf:List Nat} {q:Nat} {lf:Int} (L:LRes K n env c l body A B full push p ln tok tf q lf) {px pf pos:Pos} :
  Ex1 K (n+1) env ⟨[("self",some (.ref l)),("token",some (.w (.str tok))),("fiter",some (.ref c)),("ch",none)],[]⟩ ((c,.citer l false)::(A++(l,.lex full p ln push)::B)) (.For (.Name "ch" px) (.Name "fiter" pf) body [] pos) (.ret (.w (.str tf))) ⟨[("self",some (.ref l)),("token",some (.w (.str tf))),("fiter",some (.ref c)),("ch",none)],[]⟩ ((c,.citer l false)::(A++(l,.lex full q lf push)::B))
  ∨ Ex1 K (n+1) env ⟨[("self",some (.ref l)),("token",some (.w (.str tok))),("fiter",some (.ref c)),("ch",none)],[]⟩ ((c,.citer l false)::(A++(l,.lex full p ln push)::B)) (.For (.Name "ch" px) (.Name "fiter" pf) body [] pos) .next ⟨[("self",some (.ref l)),("token",some (.w (.str tf))),("fiter",some (.ref c)),("ch",none)],[]⟩ ((c,.citer l true)::(A++(l,.lex full q lf push)::B)):=by
 obtain ⟨k,L | L⟩:=L
 ·exact .inl (Ex1.forC T.RC T.hF (Ev.name (by walk_at "mem") (by kernel_rfl)) ⟨l,false,by simp⟩ L)
 ·exact .inr (Ex1.forC T.RC T.hF (Ev.name (by walk_at "mem") (by kernel_rfl)) ⟨l,false,by simp⟩ L)
theorem LRes.nest {st:Stmt} {tok tok' tf:List Nat} {y:Nat} {r:List Nat} {p' q q':Nat} {ln' lf lf':Int} (h:full.drop p=y::r) (hp:(p:Int)<2 ^ 59)
  (hb : ∀ o ρ' σ',Ex1 K (n+1) env ⟨[("self",some (.ref l)),("token",some (.w (.str tok'))),("fiter",some (.ref c)),("ch",none)],[]⟩ ((c,.citer l false)::(A++(l,.lex full p' ln' push)::B)) st o ρ' σ' →
   Ex K (n+1) env ⟨[("self",some (.ref l)),("token",some (.w (.str tok))),("fiter",some (.ref c)),("ch",some (.w (.str [y])))],[]⟩ ((c,.citer l false)::(A++(l,.lex full (p+1) (if y=10 then ln+1 else ln) push)::B)) bodyO o ρ' σ')
  (L:Ex1 K (n+1) env ⟨[("self",some (.ref l)),("token",some (.w (.str tok'))),("fiter",some (.ref c)),("ch",none)],[]⟩ ((c,.citer l false)::(A++(l,.lex full p' ln' push)::B)) st (.ret (.w (.str tf))) ⟨[("self",some (.ref l)),("token",some (.w (.str tf))),("fiter",some (.ref c)),("ch",none)],[]⟩ ((c,.citer l false)::(A++(l,.lex full q' lf' push)::B))
   ∨ Ex1 K (n+1) env ⟨[("self",some (.ref l)),("token",some (.w (.str tok'))),("fiter",some (.ref c)),("ch",none)],[]⟩ ((c,.citer l false)::(A++(l,.lex full p' ln' push)::B)) st .next ⟨[("self",some (.ref l)),("token",some (.w (.str tf))),("fiter",some (.ref c)),("ch",none)],[]⟩ ((c,.citer l true)::(A++(l,.lex full q' lf' push)::B)))
  (hq:q=q') (hl:lf=lf'):LRes K n env c l bodyO A B full push p ln tok tf q lf:=by
 subst hq hl
 rcases L with L | L
 ·exact ⟨0,.inl (.ret (zB8 h hp) (by walk_at "setv") (hb _ _ _ L))⟩
 ·exact ⟨0+1,.inr (.turn (zB8 h hp) (by walk_at "setv") (.inl (hb _ _ _ L)) (.stop (.over (l:=l) (by simp))))⟩
theorem LRes.stQ (T:TokK K mN n) {tf:List Nat} {q:Nat} {lf:Int} (L:LRes K n env c l zM5 A B full push p ln tok tf q lf) :
  Ex1 K (n+1) env ⟨[("self",some (.ref l)),("token",some (.w (.str tok))),("fiter",some (.ref c)),("ch",none)],[]⟩ ((c,.citer l false)::(A++(l,.lex full p ln push)::B)) stQ (.ret (.w (.str tf))) ⟨[("self",some (.ref l)),("token",some (.w (.str tf))),("fiter",some (.ref c)),("ch",none)],[]⟩ ((c,.citer l false)::(A++(l,.lex full q lf push)::B))
  ∨ Ex1 K (n+1) env ⟨[("self",some (.ref l)),("token",some (.w (.str tok))),("fiter",some (.ref c)),("ch",none)],[]⟩ ((c,.citer l false)::(A++(l,.lex full p ln push)::B)) stQ .next ⟨[("self",some (.ref l)),("token",some (.w (.str tf))),("fiter",some (.ref c)),("ch",none)],[]⟩ ((c,.citer l true)::(A++(l,.lex full q lf push)::B)):=by
 have e : ∃ px pf pos,Mine.stQ = .For (.Name "ch" px) (.Name "fiter" pf) zM5 [] pos:=⟨_,_,_,rfl⟩
 refine zd6 e fun px pf pos e=>?_
 rw [e]
 exact L.st T
theorem LRes.stW (T:TokK K mN n) {tf:List Nat} {q:Nat} {lf:Int} (L:LRes K n env c l zM4 A B full push p ln tok tf q lf) :
  Ex1 K (n+1) env ⟨[("self",some (.ref l)),("token",some (.w (.str tok))),("fiter",some (.ref c)),("ch",none)],[]⟩ ((c,.citer l false)::(A++(l,.lex full p ln push)::B)) stW (.ret (.w (.str tf))) ⟨[("self",some (.ref l)),("token",some (.w (.str tf))),("fiter",some (.ref c)),("ch",none)],[]⟩ ((c,.citer l false)::(A++(l,.lex full q lf push)::B))
  ∨ Ex1 K (n+1) env ⟨[("self",some (.ref l)),("token",some (.w (.str tok))),("fiter",some (.ref c)),("ch",none)],[]⟩ ((c,.citer l false)::(A++(l,.lex full p ln push)::B)) stW .next ⟨[("self",some (.ref l)),("token",some (.w (.str tf))),("fiter",some (.ref c)),("ch",none)],[]⟩ ((c,.citer l true)::(A++(l,.lex full q lf push)::B)):=by
 have e : ∃ px pf pos,Mine.stW = .For (.Name "ch" px) (.Name "fiter" pf) zM4 [] pos:=⟨_,_,_,rfl⟩
 refine zd6 e fun px pf pos e=>?_
 rw [e]
 exact L.st T
theorem loopO (T:TokK K mN n) (hc : ∀ d∈full,d<128) (r:List Nat) (hr:full.drop p=r) (hp:(p:Int)+r.length+8<2 ^ 59) (hz:r.length≤sizeLine):LRes K n env c l bodyO A B full push p ln [] (tokO r).1 (p+(tokO r).2) (lnUp r ln (tokO r).2):=by
 have hm : ∀ {q:Nat} {lq:Int},(l,O.lex full q lq push)∈((c,O.citer l false)::(A++(l,O.lex full q lq push)::B)):=by intros; simp
 have hch : ∀ {y:Nat} {r:List Nat} {p:Nat},full.drop p=y::r→y<128:=fun h=>hc _ (List.mem_of_mem_drop (h ▸ List.mem_cons_self))
 fun_induction tokO r generalizing p ln with
 | case1=>exact LRes.eof hr (by simp at hp; lia)
 | case2 r =>
  simp only [List.length_cons] at hp hz
  exact LRes.nest hr (by lia) (fun o ρ' σ' h=>o_quo T hm h) (LRes.stQ T (loopQ T r (zd2 hr).2 (by lia) (by simp; lia))) (by lia) rfl
 | case3 =>
  have hd:=(zd2 hr).2
  have he:=zo5 hd
  simp at hp
  have hb:=fun o ρ' σ'=>yi8 (o:=o) (ρ':=ρ') (σ':=σ') (K:=K) (n:=n) (env:=env) (l:=l) (c:=c) (tok:=[]) (σ:=(c,.citer l false)::(A++(l,.lex full (p+1) ln push)::B)) T (push:=push) (line:=ln) (place:=p+1) (by lia) (by rw [hd]; simp) (.tail SetO.app)
  rw [hd,he.1] at hb
  simp only [List.take_nil,List.append_nil,reduceCtorEq,if_false] at hb
  exact LRes.nest hr (by lia) hb (LRes.stW T (ye0 T hc [] he.2 (by simp; lia) (by simp))) rfl rfl
 | case4 y r =>
  have hd:=(zd2 hr).2
  have he:=zd2 hd
  simp only [List.length_cons] at hp hz
  have hb:=fun o ρ' σ'=>yi8 (o:=o) (ρ':=ρ') (σ':=σ') (K:=K) (n:=n) (env:=env) (l:=l) (c:=c) (tok:=[]) (σ:=(c,.citer l false)::(A++(l,.lex full (p+1) ln push)::B)) T (push:=push) (line:=ln) (place:=p+1) (by lia) (by rw [hd]; simp; lia) (.tail SetO.app)
  rw [hd,he.1] at hb
  simp only [List.take_succ_cons,List.take_zero,Option.some.injEq,List.nil_append] at hb
  exact LRes.nest hr (by lia) hb (LRes.stW T (ye0 (tok:=[y]) T hc r he.2 (by lia) (by simp; lia))) (by lia) rfl
 | case5 y r h1 h2 h3 hw ih =>
  have hd:=(zd2 hr).2
  simp only [List.length_cons] at hp hz
  exact LRes.turn (p':=p+1) (ln':=if y=10 then ln+1 else ln) hr (by lia) (.inr (o_ws T (hch hr) hw hm)) (ih hd (by lia) (by lia)) (by lia) rfl
 | case6 y r h1 h2 h3 hw =>
  have hd:=(zd2 hr).2
  simp only [List.length_cons] at hp hz
  have n92:y≠92:=by
   intro e
   cases r with
   | nil=>exact h2 e rfl
   | cons d r=>exact h3 d r e rfl
  exact LRes.nest hr (by lia) (fun o ρ' σ' h=>o_ord T (tok:=[]) (hch hr) (by simpa using hw) n92 (fun e=>h1 e) (by simp; lia) hm h) (LRes.stW T (ye0 (tok:=[y]) T hc r hd (by lia) (by simp; lia))) (by lia) rfl
theorem zZ5 (T:TokK K mN n) {f:Addr} {fd:FuncData} (D:MethAt K mN "get_token" zA6 f fd) (n1:K.mg ("iter" : Str)=none) (n2:K.mb ("iter" : Str)=some (.builtin "iter")) (hc : ∀ d∈full,d<128) (hp:(p:Int)+full.length+8<2 ^ 59) (hz:full.length≤sizeLine)
  (hs:SetO σ l (.lex full p ln []) (.lex full (p+(tokO (full.drop p)).2) (lnUp (full.drop p) ln (tokO (full.drop p)).2) []) σ') :
  MCalls K mN (n+2) "get_token" [.ref l] σ (.w (.str (tokO (full.drop p)).1)) σ':=by
 refine zc7 hs.split fun A B e1 e2=>?_
 subst e1 e2
 refine MCalls.of D (Pars.ofN (l:=["token","fiter","ch"]) rfl (by decide +kernel) (by decide +kernel)) (ρ':=⟨[("self",none),("token",none),("fiter",none),("ch",none)],[]⟩) (o:=.ret (.w (.str (tokO (full.drop p)).1))) (fun env he=>?_) (.inl rfl)
 show Ex K (n+1) env ⟨[("self",some (.ref l)),("token",none),("fiter",none),("ch",none)],[]⟩ _ _ _ _ _
 conv=>arg 6; whnf
 refine Ex.cons (ρ₁:=⟨[("self",some (.ref l)),("token",none),("fiter",none),("ch",none)],[]⟩) (σ₁:=(A++(l,.lex full p ln [])::B)) ?_ ?_
 ·refine Ex1.skip (t:=false) ?_ rfl
  refine Ts.conv (Ts.lexPb (K:=K) (mN:=mN) T.LK (Ev.name (v:=.ref l) (by walk_at "mem") (by decide +kernel)) (full:=full) (place:=p) (line:=ln) (push:=[]) (by simp) (by walk_at "auto")) rfl
 refine Ex.cons (ρ₁:=⟨[("self",some (.ref l)),("token",some (.w (.str []))),("fiter",none),("ch",none)],[]⟩) (σ₁:=(A++(l,.lex full p ln [])::B)) ?_ ?_
 ·refine Ex1.assign (Ev.cstr (l:=[]) (by decide +kernel) (by simp)) (by walk_at "setv") (by rfl)
 apply Ex.assignN (ρ₁:=fun c=>⟨[("self",some (.ref l)),("token",some (.w (.str []))),("fiter",some (.ref c)),("ch",none)],[]⟩) (o:=.citer l false) (σ₁:=(A++(l,.lex full p ln [])::B))
 ·refine EvN.citer (q:=("" : Str)) T.LK ?_ ?_ n1 n2 (Ev.name (v:=.ref l) (by walk_at "mem") (by decide +kernel)) (full:=full) (place:=p) (line:=ln) (push:=[]) (by simp) (by rfl) (by rfl)
  ·obtain ⟨fd,D⟩:=T.rm; exact D.cls
  ·exact za0 he (by kernel_rfl)
 ·intro c; show SetV _ _ _ ⟨[("self",some (.ref l)),("token",some (.w (.str []))),("fiter",some (.ref c)),("ch",none)],[]⟩; walk_at "setv"
 ·intro c
  have L:=loopO (K:=K) (n:=n) (env:=env) (c:=c) (l:=l) (A:=A) (B:=B) (push:=[]) (ln:=ln) T hc (full.drop p) rfl (by simp; lia) (by simp; lia)
  have e : ∃ px pf pos,(zb6 zA6).getD 3 stD = .For (.Name "ch" px) (.Name "fiter" pf) bodyO [] pos:=⟨_,_,_,rfl⟩
  refine zd6 e fun px pf pos e=>?_
  have e2 : ∃ pr pn,(zb6 zA6).drop 3=[(zb6 zA6).getD 3 stD,.Return (some (.Name "token" pn)) pr]:=⟨_,_,rfl⟩
  refine obEE e2 fun pr pn e2=>?_
  show Ex K (n+1) env ⟨[("self",some (.ref l)),("token",some (.w (.str []))),("fiter",some (.ref c)),("ch",none)],[]⟩ _ ((zb6 zA6).drop 3) _ _ _
  rw [e2,e]
  rcases L.st T (px:=px) (pf:=pf) (pos:=pos) with L | L
  ·exact Ex.less (Ex.stop L (by simp)) (Less.none rfl) (List.sublist_cons_self _ _)
  ·refine Ex.less (Ex.cons L (Ex.one (Ex1.ret (Ev.name (by walk_at "mem") (by kernel_rfl))))) (Less.none rfl) (List.sublist_cons_self _ _)
 all_goals walk_at "auto"
theorem zX0 (T:TokK K mN n) {f:Addr} {fd:FuncData} (D:MethAt K mN "get_token" zA6 f fd) {y:W} (hs:SetO σ l (.lex full p ln (y::push)) (.lex full p ln push) σ') :
  MCalls K mN (n+2) "get_token" [.ref l] σ (.w y) σ':=by
 refine MCalls.of D (Pars.ofN (l:=["token","fiter","ch"]) rfl (by decide +kernel) (by decide +kernel)) (ρ':=⟨[("self",some (.ref l)),("token",none),("fiter",none),("ch",none)],[]⟩) (o:=.ret (.w y)) (fun env he=>?_) (.inl rfl)
 show Ex K (n+1) env ⟨[("self",some (.ref l)),("token",none),("fiter",none),("ch",none)],[]⟩ _ _ _ _ _
 conv=>arg 6; whnf
 refine Ex.ifT (t:=true) (Ts.conv (Ts.lexPb (K:=K) (mN:=mN) T.LK (Ev.name (v:=.ref l) (by walk_at "mem") (by decide +kernel)) hs.mem (by walk_at "auto")) rfl) rfl ?_ (by simp)
 with_reducible apply Ex.one
 with_reducible apply Ex1.ret
 exact Ev.lexPop T.LK (Ev.name (v:=.ref l) (by walk_at "mem") (by decide +kernel)) hs (by rfl) (by rfl) (by rfl)
end
noncomputable abbrev zS3:Stmt:=(zb6 zY1).getD 0 stD
noncomputable abbrev yd3:Pos:=⟨143,4,145,46⟩
noncomputable abbrev yk2:Pos:=⟨146,13,146,25⟩
noncomputable abbrev zc1 (q:Str):List (Pos × Str):=[(yd3,(q ++ ".<locals>.") ++ "read"),(yk2,(q ++ ".<locals>.") ++ "<lambda>")]
section
variable {K:Kc} {n:Nat} {σ σ':List (Addr × O)} {env:Env} {mN:Str→Option Value}
theorem zZ3 : ∃ a1 a2 a3 a4 b1 b2 b3 b4 c1 c2 c3 c4 d1 d2 d3 d4 k1 k2,zb6 zS3=zo4 a1 a2 a3 a4 b1 b2 b3 b4 c1 c2 c3 c4 d1 d2 d3 d4 k1 k2:=by
 have e:(Str.ofString "\n\t\r ")=⟨#[10,9,13,32]⟩:=by decide +kernel
 unfold zo4
 rw [← e]
 exact ⟨_,_,_,_,_,_,_,_,_,_,_,_,_,_,_,_,_,_,rfl⟩
noncomputable def zC3 (K:Kc) (n:Nat) (x:Str) (vs:List V) (σ:List (Addr × O)) (o:O) (σ':List (Addr × O)):Prop :=
 ∃ f,K.mg x=some f∧Callee K f∧FnN K n f vs σ o σ'
theorem EvN.callG {σ₁:List (Addr × O)} {ρ:Lo} {x:Str} {p pos:Pos} {es:List Expr} {vs:List V} {o:O} (hk:env.kindOf x=some .globalImplicit) (h2:Evs K n env ρ es σ vs σ₁) (h3:zC3 K n x vs σ₁ o σ')
  (hd:(x==("__debug__" : Str))=false:=by kernel_rfl) (hp:(starEach es env).any (·.1)=false:=by rfl):EvN K n env ρ (.Call (.Name x p) es [] pos) σ o σ':=.mk fun A E s Q g F R h=>by
 refine zd4 h3 fun f hf C h3=>?_
 refine wpAny_Call_ofName ((Ev.glob (w:=.glob f) hk hf (fun g _=>by simp only [RW]) hd:Ev K n env ρ (.Name x p) σ (.w (.glob f)) σ) F R fun _ _ _ l1 R1 r1=>?_)
 simp only [RV,RW] at r1; subst r1
 refine za6 C (by rw [za5]; exact hp) ?_
 exact h2 F R1 fun g2 s2 us l2 R2 r2=>⟨R2.keeps,by rw [List.nil_append]; exact h3.go F R2 r2 fun g3 s3 a l3 R3=>h _ _ _ ((l1.trans l2).trans l3) R3⟩
theorem zS2 (x f:Addr):Pars (za4 zS3) (zh6 zS3) [.ref x,.ref f] ⟨[("self",some (.ref x)),("fp",some (.ref f))],[]⟩:=Pars.ofN (l:=[]) rfl (by decide +kernel) (by decide +kernel)
theorem zE8 (LK:LexK K mN) (hK:K.rdSt=zD3) (hh:K.hd=none) {a:Addr} {fd:FuncData} (D:DefAt K "_law_lexer" zf4 a fd) {P:Addr} (hc : ∃ c,fd.code = .ref c∧CodeHd K.s₀.heap c P) (hb:K.s₀.heap.BuiltinsAt K.mg P)
  (hmg:K.mg ("_netrclex" : Str)=some (.ref K.lexC)) {fI:Addr} {fdI:FuncData} (MI:MethAt K mN "__init__" zS3 fI fdI) {full:List Nat} (hP:(P,O.codes (zc1 fd.qualname))∈σ) :
  zC3 K (n+3) "_law_lexer" [.w (.str full)] σ (.lex full 0 1 []) σ:=by
 refine zj2 zZ3 fun a1 a2 a3 a4 b1 b2 b3 b4 c1 c2 c3 c4 d1 d2 d3 d4 k1 k2 hbI=>?_
 refine ⟨_,D.mg,.fn a fd D.fn,?_⟩
 have hsc:=D.scope
 refine FnN.of (ps:=zh6 zf4) (body:=zb6 zf4) (ρ:=⟨[(("text" : Str),some (.w (.str full))),("read",none),("stream",none),("place",none)],[]⟩) D.fn D.body (fun us hu=>D.bind us (by rw [hu]; rfl)) (hsc ▸ (Pars.ofN (l:=["read","stream","place"]) rfl (by decide +kernel) (by decide +kernel))) (fun k=>?_) (by rw [hsc]; rfl) (by rw [hsc]; rfl) (by rw [hsc]; rfl)
 have hes:(callEnvC fd k a).scope=za4 zf4:=hsc
 have hkd : ∀ x,(callEnvC fd k a).kindOf x=(za4 zf4).names.lookup x:=fun x=>by rw [Env.kindOf,hes]
 conv=>arg 5; whnf
 apply ExN.assignN (o:=.list [.int 0]) (ρ₁:=fun pl=>zA2 full pl none none) (σ₁:=σ)
 ·apply EvN.list
  ·walk_at "go"
  ·decide +kernel
 ·intro pl; exact ⟨.tail (.tail (.tail .head)),rfl⟩
 ·intro pl
  refine zQ5 (qr:=(fd.qualname ++ ".<locals>.") ++ "read") (ql:=(fd.qualname ++ ".<locals>.") ++ "<lambda>") (cs:=zc1 fd.qualname) (P:=P) (mN:=mN) ?_ MI hbI zS2 rfl rfl rfl hP (by rfl) (by rfl)
  exact {
   LK:=LK
   code:=hc
   bi:=hb
   hd:=hh
   c1:=.head _
   c2:=.tail _ (.head _)
   d1:=fun p hp h=>by
    simp only [zc1,List.mem_cons,List.not_mem_nil,or_false] at hp
    rcases hp with rfl | rfl
    ·rfl
    ·dsimp only at h; exact absurd h (by decide +kernel)
   d2:=fun p hp h=>by
    simp only [zc1,List.mem_cons,List.not_mem_nil,or_false] at hp
    rcases hp with rfl | rfl
    ·dsimp only at h; exact absurd h (by decide +kernel)
    ·rfl
   n1:=by
    unfold qualnameIn
    rw [hkd,show (za4 zf4).names.lookup ("read" : Str)=some .local by decide +kernel]
    rfl
   n2:=rfl
   kr:=by rw [hkd]; decide +kernel
   ks:=by rw [hkd]; decide +kernel
   kp:=by rw [hkd]; decide +kernel
   kt:=by rw [hkd]; decide +kernel
   kc:=by rw [hkd]; decide +kernel
   cl:=fun c1 c2 h1 h2=>by
    unfold closureFor
    simp only [List.forIn_cons,List.forIn_nil]
    have e1:cellOf (callEnvC fd k a) ("place" : Str)=pure c1:=by unfold cellOf; rw [h1]
    have e2:cellOf (callEnvC fd k a) ("text" : Str)=pure c2:=by unfold cellOf; rw [h2]
    rw [e1,e2]
    rfl
   cl2:=rfl
   df:=rfl
   an:=rfl
   df2:=rfl
   mg:=hmg
   eb:=by rw [hK]; rfl
   es:=by rw [hK]; rfl
   bind:=fun doc pm cdv ctv cl u=>rfl }
 all_goals walk_at "auto"
end
theorem zV0 : ∀ x:Fin 128,∀ b:Fin 2,Builtin.bitAnd ((x.val:Int)+128*((b.val:Nat):Int)) 63=((x.val%64:Nat):Int)∧Builtin.bitAnd ((x.val:Int)+128*((b.val:Nat):Int)) 64=(if x.val<64 then 0 else 64:Int):=by decide +kernel
theorem ya1 (N c i:Nat) (h:i≤c):(digL N c)[i]? = some (((if i=0 then N%64 else N/64 ^ i%64+64:Nat)):Int):=by
 unfold digL
 cases i with
 | zero=>simp
 | succ i =>
  rw [List.getElem?_cons_succ,List.getElem?_map,List.getElem?_range (by assumption)]
  simp
theorem zk3 (N c:Nat):(digL N c).length=c+1:=by simp [digL]
theorem zX1 (N c M:Nat) (h:N/64 ^ c≤63):octL N c M=((digL N (c+M%2)).reverse).map fun x=>x+128*((M/2%2:Nat):Int):=by
 unfold octL
 have e:M%2=0∨M%2=1:=by lia
 rcases e with e | e
 ·rw [e]; simp
 ·rw [e,if_pos rfl,zB2]
  have:N/64 ^ (c+1)%64=0:=by
   rw [Nat.pow_succ, ← Nat.div_div_eq_div_mul]
   have:N/64 ^ c/64=0:=by generalize N/64 ^ c=q at *; lia
   rw [this]
  rw [this]; rfl
theorem zv7 (N c b j:Nat) (h:j≤c):(((digL N c).reverse).map fun x=>x+128*((b:Nat):Int)).getD j 0=((if j=c then N%64 else N/64 ^ (c - j)%64+64:Nat):Int)+128*((b:Nat):Int):=by
 have e:((digL N c).reverse)[j]? = some (((if c - j=0 then N%64 else N/64 ^ (c - j)%64+64:Nat)):Int):=by
  rw [List.getElem?_reverse (by rw [zk3]; exact Nat.lt_succ_of_le ‹_›),zk3]
  have:c+1 - 1 - j=c - j:=by simp
  rw [this]
  exact ya1 N c (c - j) (by exact Nat.sub_le _ _)
 rw [List.getD_eq_getElem?_getD,List.getElem?_map,e]
 have:(c - j=0)↔(j=c):=by lia
 simp [this]
theorem or64 (a d:Nat) (hd:d<64):Builtin.bitOr ((a:Int)*2 ^ (6:Int).toNat) ((d:Nat):Int)=((a*64+d:Nat):Int):=by
 have e:((a:Int)*2 ^ (6:Int).toNat)=((a*64:Nat):Int):=by push_cast; rfl
 rw [e]
 rw [bitOr_and,bitAnd_pp (Int.natCast_nonneg _) (Int.natCast_nonneg _)]
 simp only [Int.toNat_natCast]
 have z:a*64 &&& d=0:=by
  apply Nat.eq_of_testBit_eq
  intro i
  rw [Nat.testBit_and,Nat.zero_testBit]
  by_cases hi:i<6
  ·rw [Nat.mul_comm,show (64:Nat)=2 ^ 6 from rfl,Nat.testBit_two_pow_mul]
   simp; lia
  ·rw [Nat.testBit_lt_two_pow (x:=d) (i:=i) (Nat.lt_of_lt_of_le hd (show 2 ^ 6≤2 ^ i from Nat.pow_le_pow_right (by exact Nat.succ_pos _) (by exact Nat.le_of_not_lt ‹_›)))]
   simp
 rw [z]; trivial
theorem zC8 (N c b:Nat) (hb:b<2) (h:N/64 ^ c≤63) : ∀ j,j≤c→vAt (((digL N c).reverse).map fun x=>x+128*((b:Nat):Int)) j=((N/64 ^ (c - j):Nat):Int)
 | 0,_=>by
  unfold vAt
  rw [zv7 N c b 0 (by trivial)]
  by_cases hc:0=c
  ·subst hc
   have:=(zV0 ⟨N%64,by lia⟩ ⟨b,hb⟩).1
   simp only [if_true] at *
   rw [this]
   simp at h ⊢
   lia
  ·rw [if_neg hc]
   have:=(zV0 ⟨N/64 ^ c%64+64,by lia⟩ ⟨b,hb⟩).1
   simp only [Nat.sub_zero] at *
   rw [this]
   have:(N/64 ^ c%64+64)%64=N/64 ^ c:=by
    clear this
    generalize N/64 ^ c=q at *; lia
   rw [this]
 | j+1,hj=>by
  unfold vAt
  rw [zC8 N c b hb h j (by exact Nat.le_of_lt ‹_›),zv7 N c b (j+1) hj]
  have key : ∀ d:Nat,d<128→Builtin.bitAnd ((d:Int)+128*((b:Nat):Int)) 63=((d%64:Nat):Int):=fun d hd=>(zV0 ⟨d,hd⟩ ⟨b,hb⟩).1
  rw [key _ (by split <;> lia),or64 _ _ (by exact Nat.mod_lt _ (by decide))]
  congr 1
  have e:c - j=(c - (j+1))+1:=by lia
  rw [e,Nat.pow_succ, ← Nat.div_div_eq_div_mul]
  by_cases hc:j+1=c
  ·rw [if_pos hc,hc]; simp; exact Nat.div_add_mod' _ _
  ·rw [if_neg hc]; lia
theorem digs : ∀ (f N:Nat),N<64 ^ f→∃ c,c≤f∧(∀ k,k<c→63<N/64 ^ k)∧N/64 ^ c≤63
 | 0,N,h=>⟨0,by exact Nat.le_refl _,fun k hk=>by contradiction,by simp at h ⊢; lia⟩
 | f+1,N,h=>by
  by_cases h63:N≤63
  ·exact ⟨0,by exact Nat.zero_le _,fun k hk=>by lia,by simpa using h63⟩
  ·refine zd4 (digs f (N/64) (by rw [Nat.pow_succ] at h; exact Nat.div_lt_of_lt_mul (by rw [Nat.mul_comm]; exact h))) fun c h1 h2 h3=>?_
   have e : ∀ k,N/64/64 ^ k=N/64 ^ (k+1):=fun k=>by rw [Nat.div_div_eq_div_mul,Nat.pow_succ,Nat.mul_comm]
   refine ⟨c+1,by exact Nat.lt_succ_of_le ‹_›,fun k hk=>?_,by rw [← e]; exact h3⟩
   cases k with
   | zero=>simp; exact Nat.lt_of_not_le ‹_›
   | succ k=>rw [← e]; exact h2 k (by exact Nat.le_of_lt_succ ‹_›)
theorem zP5 (N M:Nat) (hN:N<2 ^ 36) : ∃ c os,c<100∧(∀ k,k<c→63<N/64 ^ k)∧N/64 ^ c≤63∧octL N c M=os∧os.length=c+M%2+1∧(∀ k,k<c+M%2→Builtin.bitAnd (os.getD k 0) 64≠0)∧Builtin.bitAnd (os.getD (c+M%2) 0) 64=0 ∧
  (∀ k,k<c+M%2→(Builtin.Int.intBits (vAt os k):Int)+6≤2 ^ 27)∧vAt os (c+M%2)=(N:Int):=by
 refine zd4 (digs 6 N (by simpa using hN)) fun c h1 h2 h3=>?_
 have h3':N/64 ^ (c+M%2)≤63:=Nat.le_trans (Nat.div_le_div_left (Nat.pow_le_pow_right (by exact Nat.succ_pos _) (by exact Nat.le_add_right _ _)) (Nat.pow_pos (by lia))) h3
 have hb:M/2%2<2:=by exact Nat.mod_lt _ (by decide)
 refine ⟨c,_,by exact Nat.lt_of_le_of_lt ‹_› (by decide),h2,h3,zX1 N c M h3,by simp [zk3],fun k hk=>?_,?_,fun k hk=>?_,?_⟩
 ·rw [zv7 _ _ _ _ (by exact Nat.le_of_lt ‹_›),if_neg (by lia)]
  have:=(zV0 ⟨N/64 ^ (c+M%2 - k)%64+64,by lia⟩ ⟨M/2%2,hb⟩).2
  simp only at this
  rw [this,if_neg (by simp)]; decide
 ·rw [zv7 _ _ _ _ (by exact Nat.le_refl _),if_pos rfl]
  have:=(zV0 ⟨N%64,by lia⟩ ⟨M/2%2,hb⟩).2
  simp only at this
  rw [this,if_pos (by exact Nat.mod_lt _ (by decide))]
 ·rw [zC8 _ _ _ hb h3' _ (by lia)]
  have hle:N/64 ^ (c+M%2 - k)≤N:=Nat.div_le_self _ _
  generalize N/64 ^ (c+M%2 - k)=q at *
  have:=intBits_le_64 (k:=((q:Nat):Int)) (by exact Int.natCast_nonneg _) (by lia)
  lia
 ·rw [zC8 _ _ _ hb h3' _ (by lia)]
  simp
theorem zr1 : ∀ k:Fin 32,zi7 k.val=za9 k.val∧(za9 k.val).length≤30∧za9 k.val≠[]:=by decide +kernel
noncomputable def dueN (bits low:Nat):Nat→List (List Nat)
 | 0=>[]
 | j+1=>dueN bits low j++if bits.testBit j then [za9 (low+j)] else []
theorem zx6 (bits low:Nat) : ∀ k,k≤low→words (bits*2 ^ low) k=[]
 | 0,_=>rfl
 | k+1,h=>by
  show words _ k++_=_
  rw [zx6 bits low k (by exact Nat.le_of_lt ‹_›),Nat.mul_comm,Nat.testBit_two_pow_mul]
  simp; lia
theorem zx7 (bits low:Nat) : ∀ j,low+j≤32→words (bits*2 ^ low) (low+j)=dueN bits low j
 | 0,_=>zx6 bits low low (Nat.le_refl _)
 | j+1,h=>by
  show words (bits*2 ^ low) (low+j)++(if (bits*2 ^ low).testBit (low+j) then [zi7 (low+j)] else [])=dueN bits low j++_
  rw [zx7 bits low j (by exact Nat.le_of_lt ‹_›),Nat.mul_comm,Nat.testBit_two_pow_mul]
  have e:low+j - low=j:=by simp
  have f:=(zr1 ⟨low+j,by assumption⟩).1
  simp only at f
  rw [e,f]; simp
theorem zI5 (bits low z:Nat) (hb:bits<2 ^ z) : ∀ i,dueN bits low (z+i)=dueN bits low z
 | 0=>rfl
 | i+1=>by
  show dueN bits low (z+i)++(if bits.testBit (z+i) then [za9 (low+(z+i))] else [])=_
  rw [zI5 bits low z hb i,Nat.testBit_lt_two_pow (Nat.lt_of_lt_of_le hb (Nat.pow_le_pow_right (by exact Nat.succ_pos _) (by exact Nat.le_add_right _ _)))]
  simp
theorem zV7 (bits low z:Nat) (hb:bits<2 ^ z) (hz:low+z≤32):words (bits*2 ^ low) 32=dueN bits low z:=by
 have e:32=low+(32 - low):=by lia
 rw [e,zx7 _ _ _ (by lia)]
 have e2:32 - low=z+(32 - low - z):=by lia
 rw [e2,zI5 _ _ _ hb]
theorem zw9 (low:Nat) : ∀ j,dueN 0 low j=[]
 | 0=>rfl
 | j+1=>by show dueN 0 low j++_=_; rw [zw9 low j]; simp
theorem zT6 (bits low z:Nat) (hb:bits<2 ^ z) (h0:bits≠0):dueN bits low z≠[]:=by
 intro e
 apply h0
 apply Nat.eq_of_testBit_eq
 intro i
 rw [Nat.zero_testBit]
 by_cases hi:i<z
 ·have : ∀ j,j≤z→dueN bits low j=[]:=by
   intro j hj
   obtain ⟨d,rfl⟩:=Nat.exists_eq_add_of_le hj
   clear hj hb hi
   induction d with
   | zero=>exact e
   | succ d ih =>
    apply ih
    have:dueN bits low (j+d+1)=dueN bits low (j+d)++_:=rfl
    have e':dueN bits low (j+d+1)=[]:=e
    rw [this] at e'
    exact (List.append_eq_nil_iff.mp e').1
  have e1:=this (i+1) hi
  have:dueN bits low (i+1)=dueN bits low i++if bits.testBit i then [za9 (low+i)] else []:=rfl
  rw [this] at e1
  have:=(List.append_eq_nil_iff.mp e1).2
  cases h:bits.testBit i with
  | false=>rfl
  | true=>rw [h] at this; cases this
 ·exact Nat.testBit_lt_two_pow (Nat.lt_of_lt_of_le hb (Nat.pow_le_pow_right (by lia) (by exact Nat.le_of_not_lt ‹_›)))
theorem zx0 (bits low z:Nat) (hz:low+z≤32) : ∀ j,j≤z→∀ s∈dueN bits low j,∃ k,k<32∧s=za9 k
 | 0,_,s,h=>nomatch h
 | j+1,hj,s,h=>by
  rcases List.mem_append.mp h with h | h
  ·exact zx0 bits low z hz j (by lia) s h
  ·split at h
   ·exact ⟨low+j,by lia,by simpa using h⟩
   ·cases h
theorem zi8 (bits low:Nat) : ∀ j,(dueN bits low j).length≤j
 | 0=>Nat.le_refl _
 | j+1=>by
  have:=zi8 bits low j
  show (dueN bits low j++(if bits.testBit j then [za9 (low+j)] else [])).length≤_
  split <;> simp <;> omega
noncomputable def ze4 (bits low z:Nat):List Nat:=if bits=0 then L "0x0" else zb7 (L ", ") (dueN bits low z)
theorem zD5 (bits low z:Nat) (hb:bits<2 ^ z) (hz:low+z≤32):zz0 (bits*2 ^ low)=ze4 bits low z∧zc4 (bits*2 ^ low)=(if bits=0 then [L "0x0"] else dueN bits low z)∧left (bits*2 ^ low) 32=0:=by
 have hlt:bits*2 ^ low<2 ^ 32:=by
  calc bits*2 ^ low<2 ^ z*2 ^ low:=Nat.mul_lt_mul_of_pos_right hb (Nat.two_pow_pos _)
   _=2 ^ (z+low):=(Nat.pow_add _ _ _).symm
   _≤2 ^ 32:=Nat.pow_le_pow_right (by lia) (by lia)
 have hl:left (bits*2 ^ low) 32=0:=by unfold left; rw [Nat.div_eq_of_lt hlt]; try simp
 have hL:zc4 (bits*2 ^ low)=(if bits=0 then [L "0x0"] else dueN bits low z):=by
  unfold zc4
  rw [zV7 bits low z hb hz,hl]
  by_cases h:bits=0
  ·subst h
   rw [zw9]
   simp only [Nat.zero_mul,ne_eq,not_true,and_false,if_false,if_true,List.nil_append]
   congr 1
  ·have h2:bits*2 ^ low≠0:=Nat.mul_ne_zero h (Nat.ne_of_gt (Nat.two_pow_pos _))
   simp [h,h2]
 refine ⟨?_,hL,hl⟩
 unfold zz0 ze4
 rw [hL]
 split
 ·rfl
 ·rfl
theorem zK4 (l:List (List Nat)) (h : ∀ s∈l,s.length≤30):(l.map (·.length)).sum≤30*l.length:=by
 induction l with
 | nil=>simp
 | cons a l ih =>
  have h1:=h a (by simp)
  have h2:=ih fun s hs=>h s (List.mem_cons_of_mem _ hs)
  simp only [List.map_cons,List.sum_cons,List.length_cons]
  lia
theorem ExF.pre {K:Kc} {n:Nat} {env:Env} {ρ ρ₁ ρ':Lo} {σ σ₁ σ':List (Addr × O)} {ss:List Stmt} {o:Out} (h1:ExF K n env ρ₁ σ₁ ss o ρ' σ') (hρ:Less ρ ρ₁) (hσ:σ₁.Sublist σ):ExF K n env ρ σ ss o ρ' σ':=.mk fun _ _ _ _ _ F hf he R h=>h1.go F hf he (R.less hρ hσ) h
theorem zp3 (a c:Int) (k:Nat):za3 a c (k+1)=za3 a c k++[W.int (a+(k:Int)*c)]:=by simp [za3,List.range_succ]
noncomputable def dueF (bits low:Nat):W→Option W
 | .int i=>if bits.testBit i.toNat then some (.str (za9 (low+i.toNat))) else none
 | _=>none
theorem zA9 (bits low:Nat) : ∀ j,(za3 0 1 j).filterMap (dueF bits low)=(dueN bits low j).map W.str
 | 0=>rfl
 | j+1=>by
  rw [zp3,List.filterMap_append,zA9 bits low j]
  show _=(dueN bits low j++(if bits.testBit j then [za9 (low+j)] else [])).map W.str
  rw [List.map_append]
  congr 1
  have e:((0:Int)+(j:Int)*1).toNat=j:=by simp
  simp only [List.filterMap_cons,List.filterMap_nil,dueF,e]
  split <;> simp_all
theorem zf0 {env:Env} {sc:Scope} (he:env.scope=sc) {elt:Expr} {gs:List Comprehension} {s:Scope} {p pos:Pos} {t:Str} {line:Nat} (h:(sc.kind==ScopeKind.function&&sc.names.lookup t==some .local&&pos.line==p.line && !(s.names.any fun (n,k)=>n==t&&(k == .local||k == .cell)))=true)
  (hk:sc.kind = .function:=by rfl):swapsWith (.ListComp elt gs s p) (some (.Name t pos)) line env=pure true:=by
 show (pure (env.blockKind == .function&&env.kindOf t==some .local&&pos.line==p.line && !(s.names.any fun (n,k)=>n==t&&(k == .local||k == .cell))):Sem Bool)=_
 have hb:env.blockKind=sc.kind:=by
  unfold Env.blockKind
  rw [he,hk]; rfl
 rw [hb,Env.kindOf,he,h]
theorem yf0 (l:List (List Nat)) (h:l≠[]) (h2 : ∀ s∈l,s≠[]):zb7 (L ", ") l≠[]:=by
 cases l with
 | nil=>exact absurd rfl h
 | cons a l =>
  intro e
  have ha:=h2 a (by simp)
  cases a with
  | nil=>exact ha rfl
  | cons c a =>
   cases l <;> simp [zb7] at e
noncomputable def nlOf (i:Nat):List Nat:=[L "\n",L "\r",L "\r\n"].getD i []
noncomputable def za7 (full:List Nat):Nat→Nat × Int
 | 0=>(0,1)
 | k+1=>((za7 full k).1+(tokO (full.drop (za7 full k).1)).2,lnUp (full.drop (za7 full k).1) (za7 full k).2 (tokO (full.drop (za7 full k).1)).2)
noncomputable def zk7 (full:List Nat) (k:Nat):List Nat:=(tokO (full.drop (za7 full k).1)).1
theorem zi5 {l t1 f t2 p}:zb5 l t1 f t2 p "get_token" = none:=by
 unfold zb5; rw [if_neg (by decide +kernel),if_neg (by decide +kernel),if_neg (by decide +kernel),if_neg (by decide +kernel)]
theorem lmG (l t1 f t2 p):zb5 l t1 f t2 p "get_token" = none:=zi5
theorem zF0 {l t1 f t2 p}:zb5 l t1 f t2 p "push_token" = none:=by
 unfold zb5; rw [if_neg (by decide +kernel),if_neg (by decide +kernel),if_neg (by decide +kernel),if_neg (by decide +kernel)]
theorem lmP (l t1 f t2 p):zb5 l t1 f t2 p "push_token" = none:=zF0
structure LexC (K:Kc) (mN:Str→Option Value) (n:Nat):Prop where
 LK:LexK K mN
 get : ∀ {σ σ':List (Addr × O)} {l:Addr} {full:List Nat} {p:Nat} {ln:Int},(∀ d∈full,d<128)→(p:Int)+full.length+8<2 ^ 59→full.length≤sizeLine →
  SetO σ l (.lex full p ln []) (.lex full (p+(tokO (full.drop p)).2) (lnUp (full.drop p) ln (tokO (full.drop p)).2) []) σ'→MCalls K mN n "get_token" [.ref l] σ (.w (.str (tokO (full.drop p)).1)) σ'
 pop : ∀ {σ σ':List (Addr × O)} {l:Addr} {full:List Nat} {p:Nat} {ln:Int} {y:W} {push:List W},SetO σ l (.lex full p ln (y::push)) (.lex full p ln push) σ'→MCalls K mN n "get_token" [.ref l] σ (.w y) σ'
 push : ∀ {σ σ':List (Addr × O)} {l:Addr} {full:List Nat} {p:Nat} {ln:Int} {y:W} {push:List W},push.length<sizeLine→SetO σ l (.lex full p ln push) (.lex full p ln (push++[y])) σ'→MCalls K mN n "push_token" [.ref l,.w y] σ (.w .none) σ'
theorem zu6 : ∀ l:List (List Nat),wseq (l.map W.str) (l.map W.str)=some true
 | []=>rfl
 | a::l=>by simp [wseq,weq,zu6 l]
theorem Ex1.toS {K:Kc} {n:Nat} {env:Env} {σ σ':List (Addr × O)} {st:Stmt} {o:Out} {ρ ρ':Lo} {σ₁:List (Addr × O)} (h:Ex1 K n env ρ σ st o ρ' σ₁) (e:σ₁=σ'):Ex1 K n env ρ σ st o ρ' σ':=e ▸ h
theorem zk6 (s:List Nat) : ∀ l:List (List Nat),wmem (.str s) (l.map W.str)=some (decide (s∈l))
 | []=>rfl
 | a::l=>by
  simp only [List.map_cons,wmem,weq,zk6 s l]
  congr 1
  by_cases h:a=s
  ·subst h; simp
  ·have:s≠a:=fun e=>h e.symm
   simp [h,this]
theorem zQ7 : ∀ i:Fin 32,44∉za9 i.val∧za9 i.val≠L "0x0" := by decide +kernel
theorem zX4 : ∀ i j:Fin 32,za9 i.val=za9 j.val→i=j:=by decide +kernel
theorem zT7 (bits low:Nat) (s:List Nat) : ∀ j,s∈dueN bits low j ↔ ∃ i,i<j∧bits.testBit i=true∧s=za9 (low+i)
 | 0=>⟨fun h=>(nomatch h),fun ⟨i,h,_⟩=>absurd h (by simp)⟩
 | j+1=>by
  show s∈dueN bits low j++(if bits.testBit j then [za9 (low+j)] else [])↔_
  rw [List.mem_append,zT7 bits low s j]
  constructor
  ·rintro (⟨i,h1,h2,h3⟩ | h)
   ·exact ⟨i,by exact Nat.le_succ_of_le ‹_›,h2,h3⟩
   ·split at h
    ·rename_i hb; exact ⟨j,by exact Nat.lt_succ_self _,hb,by simpa using h⟩
    ·cases h
  ·rintro ⟨i,h1,h2,h3⟩
   by_cases e:i=j
   ·subst e; right; rw [if_pos h2]; simp [h3]
   ·left; exact ⟨i,by lia,h2,h3⟩
noncomputable def zu9 (bits low z:Nat):List (List Nat):=if bits=0 then [L "0x0"] else dueN bits low z
theorem zJ3 (bits low z:Nat) (hb:bits<2 ^ z) (hz:low+z≤32):zf1 (ze4 bits low z) [44,32]=zu9 bits low z:=by
 unfold ze4 zu9
 by_cases h:bits=0
 ·rw [if_pos h,if_pos h]; exact zl7 [L "0x0"] (by simp) (by decide +kernel)
 ·rw [if_neg h,if_neg h]
  have e:L ", " = [44,32]:=by decide +kernel
  rw [e]
  refine zl7 _ (zT6 bits low z hb h) fun w hw=>?_
  (refine obEA (zx0 bits low z hz z (Nat.le_refl _) w hw) fun k hk zq2=>?_; subst zq2)
  exact (zQ7 ⟨k,hk⟩).1
theorem zJ4 (bits low z:Nat) (h7:z≤7) (hz:low+z≤32):(∀ x∈zu9 bits low z,x.length≤30)∧(zu9 bits low z).length≤7:=by
 unfold zu9
 split
 ·exact ⟨by decide +kernel,by simp⟩
 ·refine ⟨fun x hx=>?_,Nat.le_trans (zi8 _ _ _) h7⟩
  (refine obEA (zx0 bits low z hz z (Nat.le_refl _) x hx) fun k hk zq2=>?_; subst zq2)
  exact (zr1 ⟨k,hk⟩).2.1
theorem zd7 {ce env:Env} {scope:Scope} {x:Str} {k:NameKind} (hce:ce.scope=relabel scope env) (hk:k ≠ .free) (h:scope.names.lookup x=some k):ce.kindOf x=some k:=by
 rw [Env.kindOf,hce]; exact zg2 (scope:=scope) hk h
theorem zt2 {a c:Int} {m k:Nat} {w:W} (h:(za3 a c m)[k]? = some w):k<m∧w = .int (a+(k:Int)*c):=by
 have hk:k<m:=by
  have:=(List.getElem?_eq_some_iff.mp h).1
  rwa [za1] at this
 refine ⟨hk,?_⟩
 have e:(za3 a c m)[k]? = some (.int (a+(k:Int)*c)):=by simp [za3,hk]
 rw [e] at h; exact (Option.some.inj h).symm
noncomputable def hd3n (a b:Nat):Nat:=(if a.testBit 0=b.testBit 0 then 0 else 1)+(if a.testBit 1=b.testBit 1 then 0 else 1)+(if a.testBit 2=b.testBit 2 then 0 else 1)
noncomputable def sg (c:Bool):Int:=if c then -1 else 1
noncomputable def chi (g m:Nat):Int:=sg (g.testBit 0&&m.testBit 0)*sg (g.testBit 1&&m.testBit 1)*sg (g.testBit 2&&m.testBit 2)
noncomputable def gray (s:Nat):Nat:=s ^^^ (s/2)
noncomputable def flip (s:Nat):Nat:=if s%2=1 then 0 else if s%4=2 then 1 else 2
noncomputable def cnt (m:Nat):Nat→Nat
 | 0=>0
 | s+1=>cnt m s+if m.testBit (flip (s+1)) then 1 else 0
noncomputable def evN (s:Nat) (ms:List Nat):Nat:=(ms.filter fun m=>(1+cnt m s)%2==0).length
noncomputable def farL:List Nat→List Int
 | []=>[]
 | a::r=>r.map (fun b=>(hd3n a b:Int))++farL r
noncomputable def sumG (G:List Nat) (f:Nat→Int):Int:=(G.map f).sum
noncomputable def zc3 (p:Nat):List Nat:=[[0],[1,3,7],[2,4,6],[5]].getD p []
noncomputable def Kt (p:Nat) (d:Nat):Int:=([[1,1,1,1],[3,1, -1, -3],[3, -1, -1,3],[1, -1,1, -1]].getD p []).getD d 0
noncomputable def sumX (g:Nat) (ms:List Nat):Int:=(ms.map (chi g)).sum
theorem yl4 : ∀ (s:Fin 8) (m:Fin 8),(if (1+cnt m.val s.val)%2==0 then (1:Int) - 2 else 1)=chi (gray s.val) m.val:=by decide +kernel
theorem zN3 (s:Nat) (hs:s<8) : ∀ ms:List Nat,(∀ m∈ms,m<8)→((ms.length:Nat):Int) - 2*((evN s ms:Nat):Int)=sumX (gray s) ms
 | [],_=>rfl
 | m::ms,h=>by
  have ih:=zN3 s hs ms fun x hx=>h x (List.mem_cons_of_mem _ hx)
  have e:=yl4 ⟨s,hs⟩ ⟨m,h m List.mem_cons_self⟩
  simp only at e
  unfold evN sumX at *
  rw [List.map_cons,List.sum_cons, ← e,List.filter_cons]
  split
  ·simp only [List.length_cons]; lia
  ·simp only [List.length_cons]; lia
theorem ym3 : ∀ (g:Fin 8) (m:Fin 8),chi g.val m.val*chi g.val m.val=1:=by decide +kernel
noncomputable def zs7 (g:Nat):List Nat→Int
 | []=>0
 | a::r=>(r.map fun b=>chi g a*chi g b).sum+zs7 g r
theorem zQ8 (x:Int) : ∀ l:List Int,(l.map fun y=>x*y).sum=x*l.sum
 | []=>by simp
 | a::l=>by simp [zQ8 x l,Int.mul_add]
theorem zO1 (g:Nat) (hg:g<8) : ∀ ms:List Nat,(∀ m∈ms,m<8)→sumX g ms*sumX g ms=(ms.length:Int)+2*zs7 g ms
 | [],_=>rfl
 | a::r,h=>by
  have ih:=zO1 g hg r fun x hx=>h x (List.mem_cons_of_mem _ hx)
  have e:=ym3 ⟨g,hg⟩ ⟨a,h a List.mem_cons_self⟩
  simp only at e
  have e2:(r.map fun b=>chi g a*chi g b).sum=chi g a*sumX g r:=by
   unfold sumX; rw [← zQ8,List.map_map]; rfl
  have e3:sumX g (a::r)=chi g a+sumX g r:=rfl
  have e4:zs7 g (a::r)=chi g a*sumX g r+zs7 g r:=by show _+_=_; rw [e2]
  rw [e3,e4,Int.add_mul,Int.mul_add,Int.mul_add,e,ih,Int.mul_comm (sumX g r) (chi g a)]
  simp only [List.length_cons]
  push_cast
  lia
theorem yi5 : ∀ (p:Fin 4) (a:Fin 8) (b:Fin 8),sumG (zc3 p.val) (fun s=>chi (gray s) a.val*chi (gray s) b.val)=Kt p.val (hd3n a.val b.val):=by decide +kernel
theorem zk8 (f g:Nat→Int) : ∀ G:List Nat,sumG G (fun s=>f s+g s)=sumG G f+sumG G g
 | []=>rfl
 | s::G=>by
  have ih:=zk8 f g G
  unfold sumG at *
  simp only [List.map_cons,List.sum_cons,ih]; lia
theorem zo9 : ∀ G:List Nat,sumG G (fun _=>0)=0
 | []=>rfl
 | s::G=>by
  have ih:=zo9 G
  unfold sumG at *
  simp only [List.map_cons,List.sum_cons,ih]; rfl
theorem zG3 (p:Nat) (hp:p<4) (a:Nat) (ha:a<8) : ∀ r:List Nat,(∀ m∈r,m<8)→sumG (zc3 p) (fun s=>(r.map fun b=>chi (gray s) a*chi (gray s) b).sum)=(r.map fun b=>Kt p (hd3n a b)).sum
 | [],_=>zo9 _
 | b::r,h=>by
  have ih:=zG3 p hp a ha r fun x hx=>h x (List.mem_cons_of_mem _ hx)
  have e:=yi5 ⟨p,hp⟩ ⟨a,ha⟩ ⟨b,h b List.mem_cons_self⟩
  simp only at e
  simp only [List.map_cons,List.sum_cons]
  rw [zk8,ih,e]
theorem zy1 (p:Nat) (hp:p<4) : ∀ ms:List Nat,(∀ m∈ms,m<8)→sumG (zc3 p) (fun s=>zs7 (gray s) ms)=((farL ms).map fun d=>Kt p d.toNat).sum
 | [],_=>zo9 _
 | a::r,h=>by
  have hr:=fun x hx=>h x (List.mem_cons_of_mem _ hx)
  have ih:=zy1 p hp r hr
  unfold zs7 farL
  rw [zk8,zG3 p hp a (h a List.mem_cons_self) r hr,ih,List.map_append,List.sum_append,List.map_map]
  congr 1
theorem yk7 (a b:Nat):hd3n a b<4:=by unfold hd3n; split <;> split <;> split <;> exact Nat.le_add_left _ _
theorem zI1 : ∀ ms:List Nat,∀ d∈farL ms,∃ k:Nat,k<4∧d=k
 | [],d,h=>nomatch h
 | a::r,d,h=>by
  rcases List.mem_append.mp h with h | h
  ·obtain ⟨b,_,rfl⟩:=List.mem_map.mp h
   exact ⟨_,yk7 a b,rfl⟩
  ·exact zI1 r d h
theorem zB6 (f:Nat→Int) : ∀ l:List Int,(∀ d∈l,∃ k:Nat,k<4∧d=k)→(l.map fun d=>f d.toNat).sum=((l.count 0:Nat):Int)*f 0+((l.count 1:Nat):Int)*f 1+((l.count 2:Nat):Int)*f 2+((l.count 3:Nat):Int)*f 3
 | [],_=>by simp
 | d::l,h=>by
  have ih:=zB6 f l fun x hx=>h x (List.mem_cons_of_mem _ hx)
  obtain ⟨k,hk,rfl⟩:=h d List.mem_cons_self
  have:k=0∨k=1∨k=2∨k=3:=by lia
  rw [List.map_cons,List.sum_cons,ih]
  rcases this with rfl | rfl | rfl | rfl <;> simp [List.count_cons] <;> rw [Int.add_mul] <;> lia
theorem yc6 (p:Nat) (hp:p<4) (ms:List Nat) (h5:ms.length=5) (h : ∀ m∈ms,m<8):sumG (zc3 p) (fun s=>(5 - 2*((evN s ms:Nat):Int))*(5 - 2*((evN s ms:Nat):Int))) =
  (5+2*(((farL ms).count 0:Nat):Int))*Kt p 0+2*(((farL ms).count 1:Nat):Int)*Kt p 1+2*(((farL ms).count 2:Nat):Int)*Kt p 2+2*(((farL ms).count 3:Nat):Int)*Kt p 3:=by
 have e : ∀ s,s<8→(5 - 2*((evN s ms:Nat):Int))*(5 - 2*((evN s ms:Nat):Int))=5+(zs7 (gray s) ms+zs7 (gray s) ms):=fun s hs=>by
  have e1:=zN3 s hs ms h
  rw [h5] at e1
  have e2:=zO1 (gray s) ((by decide : ∀ s:Fin 8,gray s.val<8) ⟨s,hs⟩) ms h
  have e3:(5 - 2*((evN s ms:Nat):Int))=sumX (gray s) ms:=e1
  rw [e3,e2,h5]
  lia
 have e4:sumG (zc3 p) (fun s=>(5 - 2*((evN s ms:Nat):Int))*(5 - 2*((evN s ms:Nat):Int)))=sumG (zc3 p) (fun s=>5+(zs7 (gray s) ms+zs7 (gray s) ms)):=by
  unfold sumG
  congr 1
  refine List.map_congr_left fun s hs=>e s ?_
  have : ∀ p:Fin 4,∀ s∈zc3 p.val,s<8:=by decide
  exact this ⟨p,hp⟩ s hs
 have e5:sumG (zc3 p) (fun _=>5)=5*Kt p 0:=by
  have : ∀ p:Fin 4,sumG (zc3 p.val) (fun _=>5)=5*Kt p.val 0:=by decide
  exact this ⟨p,hp⟩
 rw [e4,zk8,zk8,e5,zy1 p hp ms h,zB6 (Kt p) _ (zI1 ms)]
 generalize Kt p 0=k0
 generalize Kt p 1=k1
 generalize Kt p 2=k2
 generalize Kt p 3=k3
 generalize (((farL ms).count 0:Nat):Int)=c0
 generalize (((farL ms).count 1:Nat):Int)=c1
 generalize (((farL ms).count 2:Nat):Int)=c2
 generalize (((farL ms).count 3:Nat):Int)=c3
 grind
local macro_rules | `(tactic| walk_at "as") => `(tactic| (with_reducible apply Ex1.assign; rotate_left; walk_at "setv"; walk_at "auto"))
noncomputable abbrev yb2:=stAt p3 23
noncomputable abbrev zO2:=stAt p3 24
theorem zF9 (i:Int) : ∀ l:List Int,wmem (.int i) (l.map W.int)=some (decide (i∈l))
 | []=>rfl
 | a::l=>by
  simp only [List.map_cons,wmem,weq,zF9 i l,List.mem_cons]
  congr 1
  by_cases h:a=i
  ·subst h; simp
  ·simp [h,Ne.symm h]
noncomputable def sepN (bare:List Int) (j:Nat):List Nat:=if ((j:Nat):Int)∈bare then [] else [32]
noncomputable def zg4 (bare:List Int) (st:Nat) (rows:List (List Nat)):Nat→List Nat
 | 0=>[]
 | k+1=>zg4 bare st rows k++sepN bare k++rows.getD k []++nlOf ((st+k)%3)
theorem yb7 (j:Nat):(nlOf (j%3)).length≤2:=by
 have : ∀ j:Fin 3,(nlOf j.val).length≤2:=by decide +kernel
 exact this ⟨j%3,by exact Nat.mod_lt _ (by decide)⟩
theorem zv8 (bare:List Int) (st:Nat) (rows:List (List Nat)) (h : ∀ r∈rows,r.length≤40) : ∀ k,(zg4 bare st rows k).length≤50*k
 | 0=>by simp [zg4]
 | k+1=>by
  have ih:=zv8 bare st rows h k
  have h1:=yb7 (st+k)
  have h2:(sepN bare k).length≤1:=by unfold sepN; split <;> simp
  have h3:(rows.getD k []).length≤40:=by
   by_cases hk:k<rows.length
   ·have:=h rows[k] (List.getElem_mem hk)
    simpa [List.getD,hk] using this
   ·simp [List.getD,hk]
  simp only [zg4,List.length_append]
  lia
theorem yi9 (i:Nat):getW [.str (L "\n"),.str (L "\r"),.str (L "\r\n")] (((i%3:Nat)):Int)=some (.str (nlOf (i%3))):=by
 have : ∀ j:Fin 3,getW [.str (L "\n"),.str (L "\r"),.str (L "\r\n")] ((j.val:Nat):Int)=some (.str (nlOf j.val)):=by
  intro j
  match j with
  | ⟨0,_⟩=>rfl
  | ⟨1,_⟩=>rfl
  | ⟨2,_⟩=>rfl
 exact this ⟨i%3,by lia⟩
noncomputable def ye8 (rows:List (List Nat)):Nat→Option V
 | 0=>none
 | k+1=>some (.w (.str (rows.getD k [])))
section
variable {K:Kc} {n:Nat} {σ σ':List (Addr × O)} {env:Env} {ρ:Lo}
theorem zJ9 {a0:Addr} {fd:FuncData} (hd:K.hd=none) (D:DefAt K "_law_sent" yb2 a0 fd) (e1:K.mg ("enumerate" : Str)=none) (e2:K.mb ("enumerate" : Str)=some (.type "enumerate"))
  (cQuo : ∀ (σ:List (Addr × O)) (T:List Nat),T.length≤1000000→Calls K n "quotedata" [.w (.str T)] σ (.w (.str (zh5 T))) σ)
  (rows:List (List Nat)) (bare:List Int) (st:Nat) (hr:rows.length≤10) (hl : ∀ r∈rows,r.length≤40) :
  Calls K (n+1) "_law_sent" [.w (.list (rows.map W.str)),.w (.list (bare.map W.int)),.w (.int st)] σ (.w (.str (zh5 (zg4 bare st rows rows.length)))) σ:=by
 refine Calls.of D (Pars.ofN (l:=["mail","place","row"]) rfl (by decide +kernel) (by decide +kernel)) (ρ':=⟨[("rows",none),("bare",none),("start",none),("mail",none),("place",none),("row",none)],[]⟩) (fun env he=>?_) (.inl rfl)
 show Ex K n env ⟨[("rows",some (.w (.list (rows.map W.str)))),("bare",some (.w (.list (bare.map W.int)))),("start",some (.w (.int st))),("mail",none),("place",none),("row",none)],[]⟩ _ _ _ _ _
 conv=>arg 6; whnf
 refine Ex.less (ρ₁:=⟨[("rows",some (.w (.list (rows.map W.str)))),("bare",some (.w (.list (bare.map W.int)))),("start",some (.w (.int st))),("mail",some (.w (.str (zg4 bare st rows rows.length)))),("place",zm4 rows.length),("row",ye8 rows rows.length)],[]⟩) (σ₁:=σ) ?_ (Less.none rfl) (List.Sublist.refl _)
 refine Ex.cons (ρ₁:=⟨[("rows",some (.w (.list (rows.map W.str)))),("bare",some (.w (.list (bare.map W.int)))),("start",some (.w (.int st))),("mail",some (.w (.str []))),("place",none),("row",none)],[]⟩) (σ₁:=σ) ?_ ?_
 ·walk_at "as"
  exact Ev.cstr (l:=[]) (by decide +kernel) (by simp)
 have hlen:(zl5 (rows.map W.str)).length=rows.length:=by rw [zg8,List.length_map]
 refine Ex.cons (ρ₁:=⟨[("rows",some (.w (.list (rows.map W.str)))),("bare",some (.w (.list (bare.map W.int)))),("start",some (.w (.int st))),("mail",some (.w (.str (zg4 bare st rows rows.length)))),("place",zm4 rows.length),("row",ye8 rows rows.length)],[]⟩) (σ₁:=σ) ?_ ?_
 ·refine Ex1.for (items:=zl5 (rows.map W.str)) (fun k=>⟨[("rows",some (.w (.list (rows.map W.str)))),("bare",some (.w (.list (bare.map W.int)))),("start",some (.w (.int st))),("mail",some (.w (.str (zg4 bare st rows k)))),("place",zm4 k),("row",ye8 rows k)],[]⟩)
   (fun k=>⟨[("rows",some (.w (.list (rows.map W.str)))),("bare",some (.w (.list (bare.map W.int)))),("start",some (.w (.int st))),("mail",some (.w (.str (zg4 bare st rows k)))),("place",some (.w (.int k))),("row",some (.w (.str (rows.getD k []))))],[]⟩)
   (fun _=>σ) ?_ (fun _=>rfl) (fun k x hk=>?_) ?_
  ·exact ItN.enumerate hd (za0 he (by kernel_rfl)) e1 e2 (by walk_at "go")
  ·have hkl:k<rows.length:=by rw [← hlen]; exact (List.getElem?_eq_some_iff.mp hk).1
   have hx:x = .tuple [.int k,.str (rows.getD k [])]:=by
    have:=zm6 (xs:=rows.map W.str) (i:=k) (x:=.str (rows.getD k [])) (by simp [hkl])
    rw [this] at hk; exact (Option.some.inj hk).symm
   subst hx
   refine ⟨Bind.pair hd (by walk_at "setv") (by walk_at "setv"),.inl ?_⟩
   have m1:=zv8 bare st rows hl k
   have m2:=yb7 (st+k)
   have m3:(sepN bare k).length≤1:=by unfold sepN; split <;> simp
   have m4:(rows.getD k []).length≤40:=by simpa [List.getD,hkl] using hl rows[k] (List.getElem_mem hkl)
   with_reducible apply Ex.one
   show Ex1 K n env ⟨[("rows",some (.w (.list (rows.map W.str)))),("bare",some (.w (.list (bare.map W.int)))),("start",some (.w (.int st))),("mail",some (.w (.str (zg4 bare st rows k)))),("place",some (.w (.int k))),("row",some (.w (.str (rows.getD k []))))],[]⟩ σ _ _
    ⟨[("rows",some (.w (.list (rows.map W.str)))),("bare",some (.w (.list (bare.map W.int)))),("start",some (.w (.int st))),("mail",some (.w (.str (zg4 bare st rows k++sepN bare k++rows.getD k []++nlOf ((st+k)%3))))),("place",some (.w (.int k))),("row",some (.w (.str (rows.getD k []))))],[]⟩ σ
   generalize zg4 bare st rows k=M at *
   generalize rows.getD k []=r at *
   walk_at "as"
   refine Ev.bin (x:=.str (M++sepN bare k++r)) (y:=.str (nlOf ((st+k)%3))) (σ₁:=σ) ?_ ?_ (Opn.addS (by rw [sizeLine_eq]; simp only [List.length_append]; lia))
   ·refine Ev.bin (x:=.str (M++sepN bare k)) (y:=.str r) (σ₁:=σ) ?_ ?_ (Opn.addS (by rw [sizeLine_eq]; simp only [List.length_append]; lia))
    ·refine Ev.bin (x:=.str M) (y:=.str (sepN bare k)) (σ₁:=σ) ?_ ?_ (Opn.addS (by rw [sizeLine_eq]; lia))
     ·walk_at "go"
     ·refine Ev.ifexp (t:=decide (((k:Nat):Int)∈bare)) (σ₁:=σ) ?_ (fun h=>?_) (fun h=>?_)
      ·refine Ts.cmp (x:=.int (k:Nat)) (y:=.list (bare.map W.int)) (σ₁:=σ) ?_ ?_ (Opn.inL (zF9 _ _)) (by walk_at "auto")
       ·walk_at "go"
       ·walk_at "go"
      ·unfold sepN; rw [if_pos (of_decide_eq_true h)]
       exact Ev.cstr (l:=[]) (by kernel_rfl) (by simp)
      ·unfold sepN; rw [if_neg (of_decide_eq_false h)]
       exact Ev.cstr (l:=[32]) (by kernel_rfl) (by rw [sizeLine_eq]; simp)
    ·walk_at "go"
   ·refine Ev.idxL (xs:=[.str (L "\n"),.str (L "\r"),.str (L "\r\n")]) (σ₁:=σ) ?_ ?_ (yi9 (st+k))
    ·apply Ev.list
     ·refine EvW.cons Ev.str (EvW.cons Ev.str (EvW.cons Ev.str EvW.nil ?_) ?_) ?_
      all_goals walk_at "auto"
     ·show List.length _≤sizeLine
      rw [sizeLine_eq]; simp
    ·refine Ev.conv (v:=.w (.int ((((st:Nat):Int)+((k:Nat):Int))%3))) ?_ (by congr 2)
     apply Ev.bin
     ·walk_at "go"
     ·walk_at "go"
     ·walk_at "go"
  ·rw [hlen]; exact Ex.nil
 with_reducible apply Ex.one
 with_reducible apply Ex1.ret
 apply Ev.callG
 ·exact za0 he (by kernel_rfl)
 ·walk_at "go"
 ·exact cQuo σ _ (by have:=zv8 bare st rows hl rows.length; lia)
 all_goals walk_at "auto"
end
noncomputable def pa1:W→W
 | .tuple (a::_)=>a
 | .list (a::_)=>a
 | w=>w
noncomputable def pa2:W→W
 | .tuple [_,b]=>b
 | .list [_,b]=>b
 | w=>w
noncomputable def sgnS (c k:Nat):Int:=if k<c then -1 else 1
noncomputable def sgR (c:Nat):Nat→List Int
 | 0=>[1]
 | k+1=>List.zipWith (fun l h=>l+sgnS c k*h) (sgR c k++[0]) (0::sgR c k)
noncomputable def sgF (s:Int):W→Option W
 | .tuple [.int l,.int h]=>some (.int (l+s*h))
 | _=>none
theorem zy7 (s:Int) : ∀ l r:List Int,(zc2 (l.map W.int) (r.map W.int)).filterMap (sgF s)=(List.zipWith (fun a b=>a+s*b) l r).map W.int
 | [],_=>by simp [zc2]
 | _::_,[]=>by simp [zc2]
 | a::l,b::r=>by
  have ih:=zy7 s l r
  unfold zc2 at *
  simp only [List.map_cons,List.zipWith_cons_cons,List.filterMap_cons,sgF,ih]
theorem zl6 {xs ys:List W} {z:W} (h:z∈zc2 xs ys):z = .tuple [pa1 z,pa2 z]∨z = .list [pa1 z,pa2 z]:=by
 unfold zc2 at h
 obtain ⟨i,hi,rfl⟩:=List.mem_iff_getElem.mp h
 simp [List.getElem_zipWith,pa1,pa2]
theorem zO3 : ∀ c:Fin 4,∀ k:Fin 4,((sgR c.val k.val).all fun x=>decide (-10≤x)&&decide (x≤10))=true∧(sgR c.val k.val).length≤4:=by decide +kernel
noncomputable def zH7 (c:Nat):Nat→Option V
 | 0=>none
 | k+1=>some (.w (.int (sgnS c k)))
section
variable {K:Kc} {n:Nat} {σ σ':List (Addr × O)} {env:Env} {ρ:Lo}
theorem zD2 {a0:Addr} {fd:FuncData} (hd:K.hd=none) (D:DefAt K "_law_signs" zO2 a0 fd) (r1:K.mg ("range" : Str)=none) (r2:K.mb ("range" : Str)=some (.type "range"))
  (z1:K.mg ("zip" : Str)=none) (z2:K.mb ("zip" : Str)=some (.type "zip")) (c:Nat) (hc:c<4) :
  Calls K (n+1) "_law_signs" [.w (.int c)] σ (.w (.list ((sgR c 3).map W.int))) σ:=by
 refine Calls.of D (Pars.ofN (l:=["row","place","sign"]) rfl (by decide +kernel) (by decide +kernel)) (ρ':=⟨[("count",none),("row",none),("place",none),("sign",none)],[]⟩) (fun env he=>?_) (.inl rfl)
 show Ex K n env ⟨[("count",some (.w (.int c))),("row",none),("place",none),("sign",none)],[]⟩ _ _ _ _ _
 conv=>arg 6; whnf
 refine Ex.less (ρ₁:=⟨[("count",some (.w (.int c))),("row",some (.w (.list ((sgR c 3).map W.int)))),("place",zm4 3),("sign",zH7 c 3)],[]⟩) (σ₁:=σ) ?_ (Less.none rfl) (List.Sublist.refl _)
 refine Ex.cons (ρ₁:=⟨[("count",some (.w (.int c))),("row",some (.w (.list [.int 1]))),("place",none),("sign",none)],[]⟩) (σ₁:=σ) ?_ ?_
 ·refine Ex1.assign (v:=.w (.list [.int 1])) (Ev.list ?_ (by decide)) (by walk_at "setv") (by rfl)
  walk_at "go"
 refine Ex.cons (ρ₁:=⟨[("count",some (.w (.int c))),("row",some (.w (.list ((sgR c 3).map W.int)))),("place",zm4 3),("sign",zH7 c 3)],[]⟩) (σ₁:=σ) ?_ ?_
 ·refine Ex1.for (items:=za3 0 1 3) (fun k=>⟨[("count",some (.w (.int c))),("row",some (.w (.list ((sgR c k).map W.int)))),("place",zm4 k),("sign",zH7 c k)],[]⟩)
   (fun k=>⟨[("count",some (.w (.int c))),("row",some (.w (.list ((sgR c k).map W.int)))),("place",some (.w (.int k))),("sign",zH7 c k)],[]⟩) (fun _=>σ) ?_ (fun _=>rfl) (fun k x hx=>?_) ?_
  ·apply ItN.range1N (N:=3)
   ·exact za0 he (by kernel_rfl)
   ·exact r1
   ·exact r2
   ·exact Ev.conv Ev.cint (by rfl)
   ·exact Nat.le_add_left _ _
   all_goals walk_at "auto"
  ·(have zq:=zb1 hx; have hk:=zq.1; have zq1:=zq.2; subst zq1)
   refine ⟨Bind.name (by walk_at "setv"),.inl ?_⟩
   have hsm:=zO3 ⟨c,hc⟩ ⟨k,by exact Nat.le_succ_of_le ‹_›⟩
   simp only at hsm
   (have hs1:=hsm.1; have hs2:=hsm.2)
   have hs1 : ∀ x∈sgR c k, -10≤x∧x≤10:=fun x hx=>by simpa using List.all_eq_true.mp hs1 x hx
   have hsg:sgnS c k = -1∨sgnS c k=1:=by unfold sgnS; split <;> simp
   have eR:(sgR c (k+1)).map W.int=(zc2 (((sgR c k)++[0]).map W.int) ((0::sgR c k).map W.int)).filterMap (sgF (sgnS c k)):=by rw [zy7]; rfl
   refine Ex.cons (ρ₁:=⟨[("count",some (.w (.int c))),("row",some (.w (.list ((sgR c k).map W.int)))),("place",some (.w (.int k))),("sign",some (.w (.int (sgnS c k))))],[]⟩) (σ₁:=σ) ?_ ?_
   ·refine Ex1.assign (v:=.w (.int (sgnS c k))) ?_ (by walk_at "setv") (by rfl)
    refine Ev.ifexp (t:=decide (((k:Nat):Int)<((c:Nat):Int))) (σ₁:=σ) ?_ (fun h=>?_) (fun h=>?_)
    ·walk_at "go"
    ·have h:k<c:=by have:=of_decide_eq_true h; omega
     unfold sgnS; rw [if_pos h]
     exact Ev.neg Ev.cint
    ·have h : ¬ k<c:=by have:=of_decide_eq_false h; omega
     unfold sgnS; rw [if_neg h]
     exact Ev.cint
   with_reducible apply Ex.one
   show Ex1 K n env ⟨[("count",some (.w (.int c))),("row",some (.w (.list ((sgR c k).map W.int)))),("place",some (.w (.int k))),("sign",some (.w (.int (sgnS c k))))],[]⟩ σ _ _ ⟨[("count",some (.w (.int c))),("row",some (.w (.list ((sgR c (k+1)).map W.int)))),("place",some (.w (.int k))),("sign",some (.w (.int (sgnS c k))))],[]⟩ σ
   refine Ex1.assignPair (items:=zc2 (((sgR c k)++[0]).map W.int) ((0::sgR c k).map W.int)) (cs:=[("sign",.w (.int (sgnS c k)))]) pa1 pa2 (sgF (sgnS c k)) hd ?_ ?_ ?_ (fun z hz=>zl6 hz) ?_ (by rw [← eR]; walk_at "setv") (zf0 he (by kernel_rfl)) (by intro _; rfl)
   ·refine ItN.zip hd (za0 he (by kernel_rfl)) z1 z2 (σ₁:=σ) ?_ ?_
    ·rw [List.map_append]
     refine Ev.bin (σ₁:=σ) ?_ (Ev.list (xs:=[.int 0]) ?_ (by decide)) (Opn.addL (by rw [sizeLine_eq]; simp; exact Nat.le_trans ‹_› (by decide)))
     ·walk_at "go"
     ·walk_at "go"
    ·show Ev K n env _ _ _ (.w (.list ([.int 0]++(sgR c k).map W.int))) _
     refine Ev.bin (σ₁:=σ) (Ev.list (xs:=[.int 0]) ?_ (by decide)) ?_ (Opn.addL (by rw [sizeLine_eq]; simp; omega))
     ·walk_at "go"
     ·walk_at "go"
   ·exact Caps.ofB ["low","high"] (by kernel_rfl) (.cell (za0 he (by kernel_rfl)) (by walk_at "mem") .nil)
   ·rw [sizeLine_eq]; simp [zc2]; omega
   ·intro ce hce z hz
    unfold zc2 at hz
    obtain ⟨i,hi,rfl⟩:=List.mem_iff_getElem.mp hz
    have h1:i<((sgR c k)++[0]).length:=by simp at hi ⊢; omega
    have h2:i<((0:Int)::sgR c k).length:=by simp at hi ⊢; omega
    have hb : -10≤((0:Int)::sgR c k)[i]∧((0:Int)::sgR c k)[i]≤10:=by
     have:=List.getElem_mem h2
     rcases List.mem_cons.mp this with e | e
     ·rw [e]; decide
     ·exact hs1 _ e
    refine .inr ⟨.int (((sgR c k)++[0])[i]+sgnS c k*((0:Int)::sgR c k)[i]),by simp only [List.getElem_zipWith,List.getElem_map]; rfl,TsC.nil,?_⟩
    simp only [List.getElem_zipWith,List.getElem_map,pa1,pa2]
    generalize ((0:Int)::sgR c k)[i]=y at *
    generalize ((sgR c k)++[0])[i]=x at *
    refine Ev.bin (σ₁:=σ) ?_ (Ev.bin (σ₁:=σ) ?_ ?_ (Opn.mulI (IntMulOk.of_left (intBits_le_64 (by omega) (by omega))))) Opn.addI
    ·exact Ev.name (by walk_at "mem") (by kernel_rfl)
    ·exact Ev.cap (by walk_at "mem") (by kernel_rfl) (by kernel_rfl)
    ·exact Ev.name (by walk_at "mem") (by kernel_rfl)
  ·rw [za1]; exact Ex.nil
 (with_reducible apply Ex.one; with_reducible apply Ex1.ret; walk_at "go")
end
noncomputable def zh0 (r:List Nat):Prop:=∀ c∈r,c≠10∧c≠13
noncomputable def dotR:List Nat→List Nat
 | []=>[]
 | c::r=>if c=46 then 46::c::r else c::r
noncomputable def zj8 (rs:List (List Nat)):List Nat:=(rs.map fun r=>dotR r++[13,10]).flatten
noncomputable def zh1 (st:Nat):List (List Nat)→Nat→List Nat
 | [],_=>[]
 | r::rs,j=>r++nlOf ((st+j)%3)++zh1 st rs (j+1)
theorem zt6 (st:Nat) (r:List Nat) : ∀ (l:List (List Nat)) (j:Nat),zh1 st (l++[r]) j=zh1 st l j++r++nlOf ((st+(j+l.length))%3)
 | [],j=>by simp [zh1]
 | a::l,j=>by
  have ih:=zt6 st r l (j+1)
  simp only [List.cons_append,zh1,ih,List.length_cons,List.append_assoc]
  congr 5; lia
theorem zB4 (X:List Nat) : ∀ r:List Nat,zh0 r→zd8 false (r++X)=r++zd8 false X
 | [],_=>rfl
 | c::r,h=>by
  have hc:=h c List.mem_cons_self
  have ih:=zB4 X r fun d hd=>h d (List.mem_cons_of_mem _ hd)
  simp only [List.cons_append,zd8,if_neg hc.1,if_neg hc.2,ih]
theorem zU3 : ∀ X:List Nat,X.head? ≠ some 10→zd8 true X=zd8 false X
 | [],_=>rfl
 | c::r,h=>by
  have:c≠10:=fun e=>h (by rw [e]; rfl)
  simp only [zd8,if_neg this]
theorem nl3 (i:Nat):(i%3=0∧nlOf (i%3)=[10])∨(i%3=1∧nlOf (i%3)=[13])∨(i%3=2∧nlOf (i%3)=[13,10]):=by
 have h:i%3=0∨i%3=1∨i%3=2:=by lia
 have e0:nlOf 0=[10]:=by decide +kernel
 have e1:nlOf 1=[13]:=by decide +kernel
 have e2:nlOf 2=[13,10]:=by decide +kernel
 rcases h with h | h | h
 ·exact .inl ⟨h,by rw [h,e0]⟩
 ·exact .inr (.inl ⟨h,by rw [h,e1]⟩)
 ·exact .inr (.inr ⟨h,by rw [h,e2]⟩)
theorem zB5 (st:Nat) (tail:List Nat) (ht:tail.head? ≠ some 10) : ∀ (rs:List (List Nat)) (j:Nat),(∀ r∈rs,zh0 r)→zd8 false (zh1 st rs j++tail)=(rs.map fun r=>r++[13,10]).flatten++zd8 false tail
 | [],_,_=>rfl
 | r::rs,j,h=>by
  have hr:=h r List.mem_cons_self
  have ih:=zB5 st tail ht rs (j+1) fun x hx=>h x (List.mem_cons_of_mem _ hx)
  have e:zh1 st (r::rs) j++tail=r++(nlOf ((st+j)%3)++(zh1 st rs (j+1)++tail)):=by simp [zh1]
  rw [e,zB4 _ _ hr]
  have key:zd8 false (nlOf ((st+j)%3)++(zh1 st rs (j+1)++tail))=13::10::zd8 false (zh1 st rs (j+1)++tail):=by
   rcases nl3 (st+j) with ⟨h0,e0⟩ | ⟨h0,e0⟩ | ⟨h0,e0⟩ <;> rw [e0]
   ·rfl
   ·have hh:(zh1 st rs (j+1)++tail).head? ≠ some 10:=by
     cases rs with
     | nil=>exact ht
     | cons q qs =>
      have hq:=h q (List.mem_cons_of_mem _ List.mem_cons_self)
      cases q with
      | nil =>
       have:(st+(j+1))%3=2:=by lia
       rcases nl3 (st+(j+1)) with ⟨h1,e1⟩ | ⟨h1,e1⟩ | ⟨h1,e1⟩
       ·lia
       ·lia
       ·simp [zh1,e1]
      | cons c q =>
       have:=(hq c List.mem_cons_self).1
       simp [zh1,this]
    rw [show zd8 false ([13]++(zh1 st rs (j+1)++tail))=13::10::zd8 true (zh1 st rs (j+1)++tail) from rfl,zU3 _ hh]
   ·rfl
  rw [key,ih]
  simp
theorem zB1 (X:List Nat) : ∀ r:List Nat,zh0 r→dots false (r++X)=r++dots false X
 | [],_=>rfl
 | c::r,h=>by
  have hc:=h c List.mem_cons_self
  have ih:=zB1 X r fun d hd=>h d (List.mem_cons_of_mem _ hd)
  have e:decide (c=10)=false:=decide_eq_false hc.1
  simp only [List.cons_append,dots,e,ih]
  simp
theorem ya0 (X r:List Nat) (h:zh0 r):dots true (r++(13::10::X))=dotR r++(13::10::dots true X):=by
 have e0 : ∀ b,dots b (13::10::X)=13::10::dots true X:=fun b=>by simp [dots]
 cases r with
 | nil=>exact e0 true
 | cons c r =>
  have hc:=h c List.mem_cons_self
  have e:decide (c=10)=false:=decide_eq_false hc.1
  have ih:=zB1 (13::10::X) r fun d hd=>h d (List.mem_cons_of_mem _ hd)
  simp only [List.cons_append,dots,e,ih,e0,dotR]
  by_cases h46:c=46
  ·subst h46; simp [dots]
  ·simp [h46,dots]
theorem zB0 (X:List Nat) : ∀ rs:List (List Nat),(∀ r∈rs,zh0 r)→dots true ((rs.map fun r=>r++[13,10]).flatten++X)=zj8 rs++dots true X
 | [],_=>rfl
 | r::rs,h=>by
  have ih:=zB0 X rs fun x hx=>h x (List.mem_cons_of_mem _ hx)
  have e:((r::rs).map fun r=>r++[13,10]).flatten++X=r++(13::10::((rs.map fun r=>r++[13,10]).flatten++X)):=by simp
  rw [e,ya0 _ _ (h r List.mem_cons_self),ih]
  simp [zj8]
theorem zp4 (st:Nat) (tail:List Nat) (ht:tail.head? ≠ some 10) (rs:List (List Nat)) (h : ∀ r∈rs,zh0 r):zh5 (zh1 st rs 0++tail)=zj8 rs++dots true (zd8 false tail):=by
 unfold zh5 crlf
 rw [zB5 st tail ht rs 0 h,zB0 _ _ h]
noncomputable def zm9 (p:List Nat):Prop:=∀ c∈p,c=10∨c=13∨c=32∨c=9
theorem ws0:zm9 []:=fan
theorem ws1:zm9 [10]:=fac (.inl rfl) fan
theorem ws2:zm9 [13,10]:=fac (.inr (.inl rfl)) ws1
theorem yh3 {p q:List Nat} (h1:zm9 p) (h2:zm9 q):zm9 (p++q):=fun c hc=>(List.mem_append.mp hc).elim (h1 c) (h2 c)
noncomputable def zP2 (c:Nat):Prop:=c≠34∧c≠92∧isWs c=false
theorem yc5 (c:Nat) (hc:c=10∨c=13∨c=32∨c=9) (r:List Nat):tokO (c::r)=((tokO r).1,(tokO r).2+1):=by
 rcases hc with rfl | rfl | rfl | rfl <;> rfl
theorem zn9 (X:List Nat) : ∀ p:List Nat,zm9 p→tokO (p++X)=((tokO X).1,p.length+(tokO X).2)
 | [],_=>by simp
 | c::p,h=>by
  have ih:=zn9 X p fun d hd=>h d (List.mem_cons_of_mem _ hd)
  rw [List.cons_append,yc5 c (h c List.mem_cons_self),ih]
  simp only [List.length_cons]
  congr 1
  lia
theorem zW1 (c:Nat) (hc:c≠92) (r:List Nat):tokW (c::r)=if isWs c then ([],1) else (c::(tokW r).1,(tokW r).2+1):=by
 conv=>lhs; unfold tokW
 split
 ·rename_i e; cases e
 ·rename_i e; simp at e; exact absurd e.1 hc
 ·rename_i e; simp at e; exact absurd e.1 hc
 ·rename_i e; cases e; rfl
theorem zt0 (X:List Nat) : ∀ w:List Nat,(∀ c∈w,zP2 c)→tokW (w++13::X)=(w,w.length+1)
 | [],_=>rfl
 | c::w,h=>by
  (have zq:=h c List.mem_cons_self; have h1:=zq.1; have h2:=zq.2.1; have h3:=zq.2.2)
  have ih:=zt0 X w fun d hd=>h d (List.mem_cons_of_mem _ hd)
  rw [List.cons_append,zW1 c h2,h3,ih]
  simp
theorem zJ5 (X:List Nat) (w:List Nat) (hne:w≠[]) (h : ∀ c∈w,zP2 c):tokO (w++13::X)=(w,w.length+1):=by
 cases w with
 | nil=>exact absurd rfl hne
 | cons c w =>
  (have zq:=h c List.mem_cons_self; have h1:=zq.1; have h2:=zq.2.1; have h3:=zq.2.2)
  have ih:=zt0 X w fun d hd=>h d (List.mem_cons_of_mem _ hd)
  rw [List.cons_append]
  conv=>lhs; unfold tokO
  split
  ·rename_i e; cases e
  ·rename_i e; simp at e; exact absurd e.1 h1
  ·rename_i e; simp at e
  ·rename_i e; simp at e; exact absurd e.1 h2
  ·rename_i e; cases e
   rw [h3,ih]; simp
theorem zW2 : ∀ r,(tokW r).2≤r.length+2:=by
 intro r
 fun_induction tokW r <;> simp_all <;> lia
theorem zW3 : ∀ r,(tokO r).2≤r.length+2:=by
 have hW:=zW2
 have hQ:=fun r=>(zv0 r).2.2
 intro r
 fun_induction tokO r with
 | case1=>simp
 | case2 r=>have:=hQ r; simp; trivial
 | case3=>simp
 | case4 y r=>have:=hW r; simp; trivial
 | case5 y r h1 h2 h3 hw ih=>simp; trivial
 | case6 y r h1 h2 h3 hw=>have:=hW r; simp; lia
noncomputable def RowTok (row tok:List Nat):Prop:=∃ m suf,(suf=[10]∨suf=[13,10])∧(∀ X,(row++13::10::X).drop m=suf++X)∧∀ X,tokO (row++13::10::X)=(tok,m)
theorem RowTok.plain {w:List Nat} (hne:w≠[]) (h : ∀ c∈w,zP2 c):RowTok w w:=by
 refine ⟨w.length+1,[10],.inl rfl,fun X=>?_,fun X=>zJ5 _ w hne h⟩
 rw [show w++13::10::X=(w++[13])++10::X by simp,List.drop_left' (by simp)]; rfl
theorem RowTok.ws {p row tok:List Nat} (hp:zm9 p) (h:RowTok row tok):RowTok (p++row) tok:=by
 refine zb2 h fun m suf h1 h2 h3=>?_
 refine ⟨p.length+m,suf,h1,fun X=>?_,fun X=>?_⟩
 ·rw [List.append_assoc,List.drop_append,List.drop_eq_nil_of_le (by exact Nat.le_add_right _ _)]
  simp [h2 X]
 ·rw [List.append_assoc,zn9 _ _ hp,h3 X]
noncomputable def remK (full:List Nat):Nat→List Nat
 | 0=>full
 | k+1=>(remK full k).drop (tokO (remK full k)).2
theorem zE9 (full:List Nat) : ∀ k,full.drop (za7 full k).1=remK full k
 | 0=>rfl
 | k+1=>by
  have ih:=zE9 full k
  show full.drop ((za7 full k).1+(tokO (full.drop (za7 full k).1)).2)=(remK full k).drop _
  rw [← List.drop_drop,ih]
theorem zo8 (full:List Nat) (k:Nat):zk7 full k=(tokO (remK full k)).1:=by unfold zk7; rw [zE9]
noncomputable def c10 (r:List Nat):Int:=((r.count 10:Nat):Int)
theorem yb8 : ∀ (k:Nat) (r:List Nat) (l:Int),lnUp r l k+c10 (r.drop k)=l+c10 r
 | 0,r,l=>by simp [lnUp]
 | k+1,[],l=>by rw [zX9]; simp
 | k+1,c::r,l=>by
  have ih:=yb8 k r (nlUp (c::r) l)
  show lnUp r (nlUp (c::r) l) k+c10 (r.drop k)=_
  rw [ih]
  unfold nlUp c10
  by_cases h:c=10
  ·subst h; simp [List.count_cons]; lia
  ·simp [List.count_cons,h]
theorem zw2 (full:List Nat) : ∀ k,(za7 full k).2+c10 (remK full k)=1+c10 full
 | 0=>rfl
 | k+1=>by
  have ih:=zw2 full k
  show lnUp (full.drop (za7 full k).1) (za7 full k).2 (tokO (full.drop (za7 full k).1)).2+c10 ((remK full k).drop (tokO (remK full k)).2)=_
  rw [zE9,yb8]; exact ih
theorem zG8 (full:List Nat) : ∀ k,(za7 full k).1≤k*(full.length+2)
 | 0=>by simp [za7]
 | k+1=>by
  have ih:=zG8 full k
  show (za7 full k).1+(tokO (full.drop (za7 full k).1)).2≤_
  have h:=zW3 (full.drop (za7 full k).1)
  have:(full.drop (za7 full k).1).length≤full.length:=by simp
  rw [Nat.add_mul]; lia
theorem zo0 (T full:List Nat) : ∀ (ps:List (List Nat × List Nat)) (pre:List Nat) (k:Nat),(∀ p∈ps,RowTok p.1 p.2)→zm9 pre→remK full k=pre++((ps.map fun p=>p.1++[13,10]).flatten++T) →
  (∀ (i:Nat) (p:List Nat × List Nat),ps[i]? = some p→(tokO (remK full (k+i))).1=p.2)∧∃ pre',((pre'=pre∧ps=[])∨pre'=[10]∨pre'=[13,10])∧remK full (k+ps.length)=pre'++T
 | [],pre,k,_,_,e=>⟨fun i p h=>by simp at h,pre,.inl ⟨rfl,rfl⟩,by simpa using e⟩
 | p::ps,pre,k,h,hp,e=>by
  refine zb2 ((h p List.mem_cons_self).ws hp) fun m suf h1 h2 h3=>?_
  have e1:remK full k=(pre++p.1)++13::10::((ps.map fun p=>p.1++[13,10]).flatten++T):=by rw [e]; simp
  have e2:remK full (k+1)=suf++((ps.map fun p=>p.1++[13,10]).flatten++T):=by
   show (remK full k).drop (tokO (remK full k)).2=_
   rw [e1,h3,h2]
  have hs:zm9 suf:=h1.elim (fun e=>e ▸ ws1) (fun e=>e ▸ ws2)
  refine yd8 (zo0 T full ps suf (k+1) (fun x hx=>h x (List.mem_cons_of_mem _ hx)) hs e2) fun g1 pre' g2 g3=>?_
  refine ⟨fun i q hq=>?_,pre',?_,?_⟩
  ·cases i with
   | zero=>simp at hq; subst hq; rw [Nat.add_zero,e1,h3]
   | succ i =>
    have:=g1 i q (by simpa using hq)
    rw [show k+(i+1)=k+1+i by lia]; exact this
  ·rcases g2 with ⟨rfl,_⟩ | g2 | g2
   ·rcases h1 with rfl | rfl
    ·exact .inr (.inl rfl)
    ·exact .inr (.inr rfl)
   ·exact .inr (.inl g2)
   ·exact .inr (.inr g2)
  ·rw [List.length_cons,show k+(ps.length+1)=k+1+ps.length by lia]; exact g3
noncomputable abbrev ze0:=stAt p3 25
noncomputable abbrev lawS (i:Nat):Stmt:=(zb6 ze0).getD i stD
noncomputable def zd1 (hs:List Nat):List W:=hs.map fun h=>W.int (h:Nat)
noncomputable abbrev HW (hs:List Nat) (h5:Nat):W:=.list (zd1 hs++[.int (h5:Nat)])
theorem zZ4 (H ns:List Int) (hH : ∀ x∈H,0≤x) (k:Nat) : ∀ x∈ze6 H ns k,0≤x:=by
 induction k with
 | zero=>exact hH
 | succ k ih =>
  intro x hx
  rcases List.mem_or_eq_of_mem_set hx with h | h
  ·exact ih x h
  ·rw [h,List.getD_eq_getElem?_getD]
   refine Int.add_nonneg ?_ (Int.emod_nonneg _ (by decide))
   cases e:(ze6 H ns k)[k%6]? with
   | none=>exact Int.le_refl 0
   | some y=>exact ih y (List.mem_of_getElem? e)
theorem heap6 (ns:List Int) : ∃ hs h5,hs.length=5∧(ze6 [13,51,68,24,47,60] ns ns.length).map W.int=zd1 hs++[.int ((h5:Nat):Int)]:=by
 have hl:=zi0 [13,51,68,24,47,60] ns ns.length
 have hp:=zZ4 [13,51,68,24,47,60] ns (by decide) ns.length
 generalize ze6 [13,51,68,24,47,60] ns ns.length=l at *
 match l,hl,hp with
 | [a,b,c,d,e,f],_,hp =>
  refine ⟨[a.toNat,b.toNat,c.toNat,d.toNat,e.toNat],f.toNat,rfl,?_⟩
  show _=[W.int (a.toNat:Nat),.int (b.toNat:Nat),.int (c.toNat:Nat),.int (d.toNat:Nat),.int (e.toNat:Nat),.int (f.toNat:Nat)]
  rw [Int.toNat_of_nonneg (hp a (mm 0 rfl)),Int.toNat_of_nonneg (hp b (mm 1 rfl)),Int.toNat_of_nonneg (hp c (mm 2 rfl)),Int.toNat_of_nonneg (hp d (mm 3 rfl)),Int.toNat_of_nonneg (hp e (mm 4 rfl)),Int.toNat_of_nonneg (hp f (mm 5 rfl))]
  rfl
theorem yh0 (hs:List Nat) (h5:Nat) (h:hs.length=5):getW (zd1 hs++[.int (h5:Nat)]) 5=some (.int (h5:Nat)):=by
 have e:(zd1 hs).length=5:=by simp [zd1,h]
 show (zd1 hs++[.int ((h5:Nat):Int)])[5]? = _
 rw [List.getElem?_append_right (by exact Nat.le_of_eq ‹_›),e]; rfl
theorem ym7 (hs:List Nat) (h5:Nat) (h:hs.length=5):cut1 none (some 5) (zd1 hs++[.int (h5:Nat)])=zd1 hs:=by
 have e:(zd1 hs).length=5:=by simp [zd1,h]
 unfold cut1 ze1
 simp only [List.drop_zero]
 rw [if_neg (by decide),List.length_append,e]
 exact List.take_left' (by rw [e]; rfl)
section
variable {K:Kc} {n:Nat} {σ σ':List (Addr × O)} {env:Env} {T:List (Str × Option V)}
theorem Ev.hcut {hs:List Nat} {h5:Nat} (h:hs.length=5) {p pk p1 p2:Pos} {k:Nat} {ρ:Lo} (he:Ev K n env ρ (.Name "heaps" p) σ (.w (HW hs h5)) σ) :
  Ev K n env ρ (.Subscript (.Name "heaps" p) (.Slice none (some (.Constant (.int 5) k pk)) none p1) p2) σ (.w (.list (zd1 hs))) σ:=by
 rw [← ym7 hs h5 h]
 exact Ev.cutL (c:=none) he EvO.nil (EvO.num Ev.cint) EvO.nil (.inl rfl)
theorem law_a (he:env.scope=za4 ze0) (hs:List Nat) (h5:Nat) (h:hs.length=5) (ns:List Int) (hh:(ze6 [13,51,68,24,47,60] ns ns.length).map W.int=zd1 hs++[.int ((h5:Nat):Int)])
  (c:Calls K n "_law_heaps" [.w (.list (ns.map W.int))] σ (.w (.list ((ze6 [13,51,68,24,47,60] ns ns.length).map W.int))) σ)
  (cN : ∀ (low:Nat),low<13→Calls K n "_law_names" [.w (.int low)] σ (.w (.list (nm3 low))) σ) :
  Ex K n env ⟨("script",some (.w (.list (ns.map W.int))))::("heaps",none)::("low",none)::("turn",none)::("names",none)::T,[]⟩ σ [lawS 0,lawS 1,lawS 2,lawS 3] .next
   ⟨("script",none)::("heaps",some (.w (HW hs h5)))::("low",some (.w (.int ((h5%13:Nat):Int))))::("turn",some (.w (.int ((h5/13:Nat):Int))))::("names",some (.w (.list (nm3 (h5%13)))))::T,[]⟩ σ:=by
 rw [hh] at c
 refine Ex.less (ρ₁:=⟨("script",some (.w (.list (ns.map W.int))))::("heaps",some (.w (HW hs h5)))::("low",some (.w (.int ((h5%13:Nat):Int))))::("turn",some (.w (.int ((h5/13:Nat):Int))))::("names",some (.w (.list (nm3 (h5%13)))))::T,[]⟩) (σ₁:=σ) ?_ (by walk_at "less") (List.Sublist.refl _)
 refine Ex.cons (ρ₁:=⟨("script",some (.w (.list (ns.map W.int))))::("heaps",some (.w (HW hs h5)))::("low",none)::("turn",none)::("names",none)::T,[]⟩) (σ₁:=σ) ?_ ?_
 ·conv=>arg 6; whnf
  walk_at "as"
  apply Ev.callG
  ·exact za0 he (by kernel_rfl)
  ·walk_at "go"
  ·exact c
  all_goals walk_at "auto"
 have h5e : ∀ {ρ:Lo} {p q r:Pos} {k:Nat},(("heaps" : Str),some (V.w (HW hs h5)))∈ρ.v→Ev K n env ρ (.Subscript (.Name "heaps" p) (.Constant (.int 5) k q) r) σ (.w (.int (h5:Nat))) σ:=fun hm=>Ev.idxL (Ev.name hm (by kernel_rfl)) Ev.cint (yh0 hs h5 h)
 refine Ex.cons (ρ₁:=⟨("script",some (.w (.list (ns.map W.int))))::("heaps",some (.w (HW hs h5)))::("low",some (.w (.int ((h5%13:Nat):Int))))::("turn",none)::("names",none)::T,[]⟩) (σ₁:=σ) ?_ ?_
 ·conv=>arg 6; whnf
  walk_at "as"
  refine Ev.conv (v:=.w (.int ((h5:Int)%13))) ?_ (by congr 2)
  exact Ev.bin (h5e (by walk_at "mem")) Ev.cint (Opn.modI (by decide))
 refine Ex.cons (ρ₁:=⟨("script",some (.w (.list (ns.map W.int))))::("heaps",some (.w (HW hs h5)))::("low",some (.w (.int ((h5%13:Nat):Int))))::("turn",some (.w (.int ((h5/13:Nat):Int))))::("names",none)::T,[]⟩) (σ₁:=σ) ?_ ?_
 ·conv=>arg 6; whnf
  walk_at "as"
  refine Ev.conv (v:=.w (.int ((h5:Int)/13))) ?_ (by congr 2)
  exact Ev.bin (h5e (by walk_at "mem")) Ev.cint (Opn.divI (by decide) (PyProof.noPylong_small (by decide)))
 ·conv=>arg 6; arg 1; whnf
  with_reducible apply Ex.one
  walk_at "as"
  apply Ev.callG
  ·exact za0 he (by kernel_rfl)
  ·walk_at "go"
  ·exact cN _ (by exact Nat.mod_lt _ (by decide))
  all_goals walk_at "auto"
end
noncomputable def fw (low m:Nat):List (List Nat):=dueN m low 3
noncomputable abbrev flW (low m:Nat):W:=.list ((fw low m).map W.str)
noncomputable def za8 (low:Nat) (k:Nat):List W:=(List.range k).map (flW low)
theorem zQ4 (low k:Nat) (h:k<3):getW (nm3 low) ((k:Nat):Int)=some (.str (za9 (low+k))):=by
 have:k=0∨k=1∨k=2:=by lia
 rcases this with rfl | rfl | rfl <;> rfl
noncomputable def zS1 (b:Bool):W→Option W:=fun w=>if b then some w else none
theorem zt8 (b:Bool) : ∀ l:List W,l.filterMap (zS1 b)=if b then l else []
 | []=>by cases b <;> rfl
 | a::l=>by
  have ih:=zt8 b l
  cases b with
  | true=>show a::l.filterMap (zS1 true)=_; rw [ih]; rfl
  | false=>show l.filterMap (zS1 false)=_; rw [ih]; rfl
theorem zV5 (l:List (List Nat)):wseq (l.map W.str) []=some l.isEmpty:=by cases l <;> rfl
theorem zW0 (low m:Nat) (hm:m<2 ^ 3):(if !(fw low m).isEmpty then (zu9 m low 3).map W.str else [])=(fw low m).map W.str:=by
 unfold fw zu9
 by_cases h:m=0
 ·subst h; rw [zw9]; rfl
 ·have:=zT6 m low 3 hm h
  rw [if_neg h]
  cases hd:dueN m low 3 with
  | nil=>exact absurd hd this
  | cons a b=>rfl
section
variable {K:Kc} {n:Nat} {σ σ':List (Addr × O)} {env:Env} {T:List (Str × Option V)}
theorem ye6 (he:env.scope=za4 ze0) (r1:K.mg ("range" : Str)=none) (r2:K.mb ("range" : Str)=some (.type "range"))
  (cPre : ∀ (σ:List (Addr × O)) (F:Nat),(hexS (left F 32)).length≤100→((zc4 F).map (·.length)).sum+(zc4 F).length*2≤16777216→Calls K n "pretty_flags" [.w (.int F)] σ (.w (.str (zz0 F))) σ)
  (low:Nat) (hlow:low<13) (fa:Addr) (hp tu:Option V) :
  Ex1 K n env ⟨("heaps",hp)::("low",some (.w (.int low)))::("turn",tu)::("names",some (.w (.list (nm3 low))))::("flags",some (.ref fa))::("number",none)::("told",none)::("due",none)::T,[]⟩ ((fa,.list [])::σ) (lawS 5) .next
   ⟨("heaps",hp)::("low",some (.w (.int low)))::("turn",tu)::("names",some (.w (.list (nm3 low))))::("flags",some (.ref fa))::("number",none)::("told",none)::("due",none)::T,[]⟩ ((fa,.list (za8 low 8))::σ):=by
 let tl:Nat→Option V:=fun k=>match k with | 0=>none | k+1=>some (.w (.str (ze4 k low 3)))
 let dl:Nat→Option V:=fun k=>match k with | 0=>none | k+1=>some (.w (.list ((fw low k).map W.str)))
 refine Ex1.less (ρ₁:=⟨("heaps",hp)::("low",some (.w (.int low)))::("turn",tu)::("names",some (.w (.list (nm3 low))))::("flags",some (.ref fa))::("number",zm4 8)::("told",tl 8)::("due",dl 8)::T,[]⟩) (σ₁:=(fa,.list (za8 low 8))::σ) ?_ (by walk_at "less") (List.Sublist.refl _)
 conv=>arg 6; whnf
 refine Ex1.for (items:=za3 0 1 8) (fun k=>⟨("heaps",hp)::("low",some (.w (.int low)))::("turn",tu)::("names",some (.w (.list (nm3 low))))::("flags",some (.ref fa))::("number",zm4 k)::("told",tl k)::("due",dl k)::T,[]⟩)
  (fun k=>⟨("heaps",hp)::("low",some (.w (.int low)))::("turn",tu)::("names",some (.w (.list (nm3 low))))::("flags",some (.ref fa))::("number",some (.w (.int k)))::("told",tl k)::("due",dl k)::T,[]⟩)
  (fun k=>(fa,.list (za8 low k))::σ) ?_ (fun _=>rfl) (fun k x hx=>?_) ?_
 ·show ItN K n env ⟨("heaps",hp)::("low",some (.w (.int low)))::("turn",tu)::("names",some (.w (.list (nm3 low))))::("flags",some (.ref fa))::("number",none)::("told",none)::("due",none)::T,[]⟩ _ ((fa,.list [])::σ) _ ((fa,.list [])::σ) _
  apply ItN.range1N (N:=8)
  ·exact za0 he (by kernel_rfl)
  ·exact r1
  ·exact r2
  ·exact Ev.conv Ev.cint (by rfl)
  ·exact Nat.le_add_left _ _
  all_goals walk_at "auto"
 ·(have zq:=zb1 hx; have hk:=zq.1; have zq1:=zq.2; subst zq1)
  refine ⟨Bind.name (by walk_at "setv"),.inl ?_⟩
  have hk2:k<2 ^ 3:=by assumption
  (have zq:=zD5 k low 3 hk2 (by lia); have p1:=zq.1; have p2:=zq.2.1; have p3:=zq.2.2)
  have hlen : ∀ s∈fw low k,s.length≤30∧s≠[]:=fun s hs=>by
   (refine obEA (zx0 k low 3 (by lia) _ (Nat.le_refl _) s hs) fun i hi zq2=>?_; subst zq2)
   exact (zr1 ⟨i,hi⟩).2
  have hfl:(fw low k).length≤3:=zi8 k low 3
  have hsum:=zK4 (fw low k) fun s hs=>(hlen s hs).1
  have eF:za8 low (k+1)=za8 low k++[.list ((fw low k).map W.str)]:=by simp [za8,List.range_succ,flW]
  have lF:(za8 low k).length=k:=by simp [za8]
  rw [eF]
  generalize za8 low k=FL at *
  show Ex K n env ⟨("heaps",hp)::("low",some (.w (.int low)))::("turn",tu)::("names",some (.w (.list (nm3 low))))::("flags",some (.ref fa))::("number",some (.w (.int k)))::("told",tl k)::("due",dl k)::T,[]⟩ ((fa,.list FL)::σ) _ _
   ⟨("heaps",hp)::("low",some (.w (.int low)))::("turn",tu)::("names",some (.w (.list (nm3 low))))::("flags",some (.ref fa))::("number",some (.w (.int k)))::("told",some (.w (.str (ze4 k low 3))))::("due",some (.w (.list ((fw low k).map W.str))))::T,[]⟩ ((fa,.list (FL++[.list ((fw low k).map W.str)]))::σ)
  generalize tl k=t0
  generalize dl k=d0
  refine Ex.cons (ρ₁:=⟨("heaps",hp)::("low",some (.w (.int low)))::("turn",tu)::("names",some (.w (.list (nm3 low))))::("flags",some (.ref fa))::("number",some (.w (.int k)))::("told",some (.w (.str (ze4 k low 3))))::("due",d0)::T,[]⟩) (σ₁:=(fa,.list FL)::σ) ?_ ?_
  ·rw [← p1]
   walk_at "as"
   apply Ev.callG
   ·exact za0 he (by kernel_rfl)
   ·refine Evs.cons (Ev.mulPow (N:=k) (a:=low) (by lia) (by lia) ?_ ?_) Evs.nil (by rfl)
    ·exact Ev.name (by walk_at "mem") (by kernel_rfl)
    ·exact Ev.name (by walk_at "mem") (by kernel_rfl)
   ·refine cPre _ _ (by rw [p3]; decide +kernel) ?_
    rw [p2]
    split
    ·decide +kernel
    ·show ((fw low k).map (·.length)).sum+(fw low k).length*2≤_
     lia
   all_goals walk_at "auto"
  refine Ex.cons (ρ₁:=⟨("heaps",hp)::("low",some (.w (.int low)))::("turn",tu)::("names",some (.w (.list (nm3 low))))::("flags",some (.ref fa))::("number",some (.w (.int k)))::("told",some (.w (.str (ze4 k low 3))))::("due",some (.w (.list ((fw low k).map W.str))))::T,[]⟩) (σ₁:=(fa,.list FL)::σ) ?_ ?_
  ·unfold fw
   rw [← zA9]
   refine Ex1.assign (Ev.compMap (f:=dueF k low) (items:=za3 0 1 3) (cs:=[("number",.w (.int k)),("names",.w (.list (nm3 low)))]) ?_ ?_ (by rw [sizeLine_eq,za1]; lia) ?_ (by intro _; rfl)) (by walk_at "setv") (zh3 he (by kernel_rfl))
   ·apply ItN.range1N (N:=3)
    ·exact za0 he (by kernel_rfl)
    ·exact r1
    ·exact r2
    ·exact Ev.conv Ev.cint (by rfl)
    ·lia
    all_goals walk_at "auto"
   ·exact Caps.ofB ["place"] (by kernel_rfl) (.cell (za0 he (by kernel_rfl)) (by walk_at "mem") (.cell (za0 he (by kernel_rfl)) (by walk_at "mem") .nil))
   ·intro ce hce y hy
    obtain ⟨i,hi0⟩:=List.getElem?_of_mem hy
    (have zq:=zb1 hi0; have hi:=zq.1; have zq1:=zq.2; subst zq1)
    by_cases hb:k.testBit i=true
    ·refine .inr ⟨.str (za9 (low+i)),by simp [dueF,hb],TsC.one (Ts.conv (Ts.bit (N:=k) (p:=i) (by lia) (Ev.cap (by walk_at "mem") (by kernel_rfl) (by kernel_rfl)) (Ev.name (by walk_at "mem") (by kernel_rfl))) hb),?_⟩
     exact Ev.idxL (Ev.cap (by walk_at "mem") (by kernel_rfl) (by kernel_rfl)) (Ev.name (by walk_at "mem") (by kernel_rfl)) (zQ4 low i hi)
    ·exact .inl ⟨by simp [dueF,hb],TsC.one (Ts.conv (Ts.bit (N:=k) (p:=i) (by lia) (Ev.cap (by walk_at "mem") (by kernel_rfl) (by kernel_rfl)) (Ev.name (by walk_at "mem") (by kernel_rfl))) (by simpa using hb))⟩
  refine Ex.cons (ρ₁:=⟨("heaps",hp)::("low",some (.w (.int low)))::("turn",tu)::("names",some (.w (.list (nm3 low))))::("flags",some (.ref fa))::("number",some (.w (.int k)))::("told",some (.w (.str (ze4 k low 3))))::("due",some (.w (.list ((fw low k).map W.str))))::T,[]⟩) (σ₁:=(fa,.list FL)::σ) ?_ ?_
  ·refine Ex1.skip (t:=!true) ?_ rfl
   refine Ts.cmp (x:=.str (ze4 k low 3)) (y:=.str (ze4 k low 3)) (σ₁:=(fa,.list FL)::σ) ?_ ?_ (by have:=Opn.neS (K:=K) (n:=n) (p:=ze4 k low 3) (q:=ze4 k low 3); simpa using this) (by walk_at "auto")
   ·walk_at "go"
   ·refine Ev.or2 (x:=.str (zb7 (L ", ") (fw low k))) (t:=!decide (k=0)) (σ₁:=(fa,.list FL)::σ) ?_ ?_ ?_ ?_
    ·refine Ev.methS (q:=L ", ") (σ₁:=(fa,.list FL)::σ) (σ₂:=(fa,.list FL)::σ) (vs:=[.w (.list ((fw low k).map W.str))]) ?_ PySem.F.slot_str_join PySem.F.type_str_join ?_ (Fn.join ?_)
     ·walk_at "go"
     ·walk_at "go"
     ·have:(L ", ").length=2:=by kernel_rfl
      rw [this]; lia
     all_goals walk_at "auto"
    ·by_cases h:k=0
     ·subst h; unfold fw; rw [zw9]; decide +kernel
     ·rw [decide_eq_false h]
      have:=yf0 _ (zT6 k low 3 hk2 h) fun s hs=>(hlen s hs).2
      unfold fw
      cases hj:zb7 (L ", ") (dueN k low 3) with
      | nil=>exact absurd hj this
      | cons a b=>rfl
    ·intro h
     have h:k=0:=by simpa using h
     unfold ze4
     rw [if_pos h]
     walk_at "go"
    ·intro h
     have h:k≠0:=by simpa using h
     unfold ze4
     rw [if_neg h]
     exact ⟨rfl,rfl⟩
  with_reducible apply Ex.one
  refine Ex1.expr (v:=.w .none) ?_ (by rfl)
  refine Ev.methL (lv:=.ref fa) (σ₁:=(fa,.list FL)::σ) (σ₂:=(fa,.list FL)::σ) (vs:=[.w (.list ((fw low k).map W.str))]) ?_ (.inr ⟨fa,FL,rfl,by walk_at "mem"⟩) PySem.F.slot_list_append PySem.F.type_list_append ?_ (Fn.append (xs:=FL) SetO.head (by rw [lF,sizeLine_eq]; lia)) (by rfl) (by decide) (by rfl) (by rfl)
  ·walk_at "go"
  ·refine Evs.cons ?_ Evs.nil (by rfl)
   refine Ev.conv (v:=.w (.list (((zu9 k low 3).map W.str).filterMap (zS1 (!(fw low k).isEmpty))))) ?_ (by rw [zt8,zW0 low k hk2])
   have tn:=zJ3 k low 3 hk2 (by lia)
   (have zq:=zJ4 k low 3 (by lia) (by lia); have z1:=zq.1; have z2:=zq.2)
   refine Ev.compMap (f:=zS1 (!(fw low k).isEmpty)) (items:=(zu9 k low 3).map W.str) (cs:=[("due",.w (.list ((fw low k).map W.str)))]) ?_ ?_ (by rw [sizeLine_eq,List.length_map]; lia) ?_ (by intro _; rfl)
   ·refine ItN.list (Ev.methS (q:=ze4 k low 3) (σ₁:=(fa,.list FL)::σ) (σ₂:=(fa,.list FL)::σ) (vs:=[.w (.str [44,32])]) ?_ PySem.F.slot_str_split PySem.F.type_str_split ?_ ?_)
    ·walk_at "go"
    ·exact Evs.cons (Ev.cstr (l:=[44,32]) (by kernel_rfl) (by rw [sizeLine_eq]; simp)) Evs.nil (by rfl)
    ·rw [← tn] at z1 z2 ⊢
     exact Fn.split (by simp) (fun x hx=>by have:=z1 x hx; rw [sizeLine_eq]; lia) (by rw [sizeLine_eq]; lia)
    all_goals walk_at "auto"
   ·exact Caps.ofB ["word"] (by kernel_rfl) (.cell (za0 he (by kernel_rfl)) (by walk_at "mem") .nil)
   ·intro ce hce y hy
    have test : ∀ (p q r s:Pos),Ts K n ce ⟨[("word",some (.w y))],[("due",.w (.list ((fw low k).map W.str)))]⟩ (.Compare (.Name ("due" : Str) p) [.NotEq] [.List [] q] r) ((fa,.list FL)::σ) (!(fw low k).isEmpty) ((fa,.list FL)::σ):=fun p q r s =>
     Ts.cmp (Ev.cap (by walk_at "mem") (by kernel_rfl) (by kernel_rfl)) (Ev.list EvW.nil) (Opn.neL (zV5 _)) (by rfl)
    cases hb:(!(fw low k).isEmpty) with
    | true=>exact .inr ⟨y,rfl,TsC.one (Ts.conv (test _ _ _ ⟨0,0,0,0⟩) hb),Ev.name (by walk_at "mem") (by kernel_rfl)⟩
    | false=>exact .inl ⟨rfl,TsC.one (Ts.conv (test _ _ _ ⟨0,0,0,0⟩) hb)⟩
 ·rw [za1]; exact Ex.nil
end
open Classical in
noncomputable def cOf (N M:Nat):Nat:=if h:N<2 ^ 36 then (zP5 N M h).choose else 0
noncomputable def octf (N M:Nat):List Int:=octL N (cOf N M) M
theorem zD7 (N M:Nat) (h:N<2 ^ 36):cOf N M<100∧(∀ k,k<cOf N M→63<N/64 ^ k)∧N/64 ^ cOf N M≤63∧(octf N M).length=cOf N M+M%2+1∧(∀ k,k<cOf N M+M%2→Builtin.bitAnd ((octf N M).getD k 0) 64≠0)∧Builtin.bitAnd ((octf N M).getD (cOf N M+M%2) 0) 64=0 ∧
  (∀ k,k<cOf N M+M%2→(Builtin.Int.intBits (vAt (octf N M) k):Int)+6≤2 ^ 27)∧vAt (octf N M) (cOf N M+M%2)=(N:Int):=by
 have e:cOf N M=(zP5 N M h).choose:=by unfold cOf; rw [dif_pos h]
 refine zk0 ((zP5 N M h).choose_spec) fun os h1 h2 h3 h4 h5=>?_
 unfold octf
 rw [e,h4]
 exact ⟨h1,h2,h3,h5⟩
noncomputable def numH (low h:Nat):Nat:=h%8*2 ^ low
theorem zE5 (low h:Nat) (hl:low<13):numH low h<2 ^ 36:=by
 unfold numH
 have h1:h%8<8:=Nat.mod_lt _ (by exact Nat.succ_pos _)
 have h2:2 ^ low≤2 ^ 12:=Nat.pow_le_pow_right (by exact Nat.succ_pos _) (by exact Nat.le_of_lt_succ ‹_›)
 calc h%8*2 ^ low≤8*2 ^ 12:=Nat.mul_le_mul (by exact Nat.le_of_lt ‹_›) h2
  _<2 ^ 36:=by decide
noncomputable def octH (low h:Nat):List Int:=octf (numH low h) (h/8)
theorem zG9 (low h:Nat) (hl:low<13):(octH low h).length≤101:=by
 (have zq:=zD7 (numH low h) (h/8) (zE5 low h hl); have h1:=zq.1; have h4:=zq.2.2.2.1)
 unfold octH; rw [h4]; lia
noncomputable def ze5 (low:Nat) (hs:List Nat):List Int:=(hs.map (octH low)).flatten
theorem zv6 (low:Nat) (hl:low<13) : ∀ hs:List Nat,(ze5 low hs).length≤101*hs.length
 | []=>by simp [ze5]
 | h::hs=>by
  have h1:=zG9 low h hl
  have h2:=zv6 low hl hs
  unfold ze5 at *
  simp only [List.map_cons,List.flatten_cons,List.length_append,List.length_cons] at *
  lia
theorem zP3 (low:Nat) (hs:List Nat) (k:Nat) (hk:k<hs.length):ze5 low (hs.take (k+1))=ze5 low (hs.take k)++octH low hs[k]:=by
 unfold ze5
 rw [← List.take_append_getElem hk,List.map_append,List.flatten_append]
 simp
theorem zP4 (low:Nat) (hs:List Nat) (k:Nat) (hk:k<hs.length):ze5 low (hs.drop k)=octH low hs[k]++ze5 low (hs.drop (k+1)):=by
 unfold ze5
 rw [List.drop_eq_getElem_cons hk]; rfl
noncomputable def numW (low:Nat) (hs:List Nat):List W:=hs.map fun h=>W.int (numH low h:Nat)
noncomputable def kdH (h:Nat):Nat:=h/32%3
noncomputable def kdW (hs:List Nat):List W:=hs.map fun h=>W.int (kdH h:Nat)
noncomputable def natF (f:Nat→W):W→Option W
 | .int i=>some (f i.toNat)
 | _=>none
theorem zp6 (f:Nat→W) : ∀ hs:List Nat,(zd1 hs).filterMap (natF f)=hs.map f
 | []=>rfl
 | h::hs=>by
  have ih:=zp6 f hs
  unfold zd1 at *
  simp [natF,ih]
theorem zk9 {hs:List Nat} {k:Nat} {x:W} (h:(zd1 hs)[k]? = some x) : ∃ hk:k<hs.length,x = .int (hs[k]:Nat):=by
 unfold zd1 at h
 rw [List.getElem?_map] at h
 (refine obEA (Option.map_eq_some_iff.mp h) fun y hy zq2=>?_; subst zq2)
 obtain ⟨hk,rfl⟩:=List.getElem?_eq_some_iff.mp hy
 exact ⟨hk,rfl⟩
theorem zx4 (f:Nat→Nat) : ∀ hs:List Nat,wseq (hs.map fun h=>W.int (f h:Nat)) (hs.map fun h=>W.int (f h:Nat))=some true
 | []=>rfl
 | h::hs=>by simp [wseq,weq,zx4 f hs]
noncomputable def yk1 (hs:List Nat):Nat→Option V
 | 0=>none
 | k+1=>some (.w (.int (hs.getD k 0:Nat)))
section
variable {K:Kc} {n:Nat} {σ σ':List (Addr × O)} {env:Env} {T:List (Str × Option V)}
theorem law_b (he:env.scope=za4 ze0) (hd:K.hd=none) (i1:K.mg ("iter" : Str)=none) (i2:K.mb ("iter" : Str)=some (.builtin "iter")) (s1:K.mg ("StopIteration" : Str)=none) (s2:K.mb ("StopIteration" : Str)=some (.type "StopIteration"))
  (cOct : ∀ (σ:List (Addr × O)) (N c M:Nat),(∀ k,k<c→63<N/64 ^ k)→N/64 ^ c≤63→c<100→Calls K n "_law_octets" [.w (.int N),.w (.int M)] σ (.w (.list ((octL N c M).map W.int))) σ)
  (cVar : ∀ (σ:List (Addr × O)) (a:Addr) (os:List Int) (rest:List W) (c:Nat) (hl:os.length=c+1) (hm : ∀ k,k<c→Builtin.bitAnd (os.getD k 0) 64≠0) (hs:Builtin.bitAnd (os.getD c 0) 64=0) (hz : ∀ k,k<c→(Builtin.Int.intBits (vAt os k):Int)+6≤2 ^ 27),
   Calls K n "_parse_varint" [.ref a] ((a,.iter (zj1 os rest 0))::σ) (.w (.int (vAt os c))) ((a,.iter rest)::σ))
  {fv:Value} (hfv:K.mg ("_parse_varint" : Str)=some fv) (Cfv:Callee K fv) (xVar : ∀ (σ:List (Addr × O)) (a:Addr) (x:Nat),x<64→FnX K n fv [.ref a] ((a,.iter [.int (64+(x:Int))])::σ) "StopIteration" σ)
  (hs:List Nat) (h5 low tn:Nat) (hl5:hs.length=5) (hlow:low<13) (nm fl:Option V) {rest:List Stmt} {o:Out} {ρ':Lo}
  (h:ExF K n env ⟨("heaps",some (.w (HW hs h5)))::("low",some (.w (.int low)))::("turn",some (.w (.int tn)))::("names",nm)::("flags",fl)::("due",none)::("octets",none)::("heap",none)::("tape",none)::("numbers",some (.w (.list (numW low hs))))::("kinds",some (.w (.list (kdW hs))))::T,[]⟩ σ rest o ρ' σ') :
  ExF K n env ⟨("heaps",some (.w (HW hs h5)))::("low",some (.w (.int low)))::("turn",some (.w (.int tn)))::("names",nm)::("flags",fl)::("due",none)::("octets",none)::("heap",none)::("tape",none)::("numbers",none)::("kinds",none)::T,[]⟩ σ (lawS 6::lawS 7::lawS 8::lawS 9::lawS 10::lawS 11::rest) o ρ' σ':=by
 have hlen:(zd1 hs).length=5:=by simp [zd1,hl5]
 have htk:hs.take 5=hs:=List.take_of_length_le (by exact Nat.le_of_eq ‹_›)
 refine ExF.cons (ρ₁:=⟨("heaps",some (.w (HW hs h5)))::("low",some (.w (.int low)))::("turn",some (.w (.int tn)))::("names",nm)::("flags",fl)::("due",none)::("octets",some (.w (.list [])))::("heap",none)::("tape",none)::("numbers",none)::("kinds",none)::T,[]⟩) (σ₁:=σ) ?_ ?_
 ·conv=>arg 6; whnf
  walk_at "as"
  exact Ev.list EvW.nil
 refine ExF.cons (ρ₁:=⟨("heaps",some (.w (HW hs h5)))::("low",some (.w (.int low)))::("turn",some (.w (.int tn)))::("names",nm)::("flags",fl)::("due",none)::("octets",some (.w (.list ((ze5 low hs).map W.int))))::("heap",none)::("tape",none)::("numbers",none)::("kinds",none)::T,[]⟩) (σ₁:=σ) ?_ ?_
 ·refine Ex1.less (ρ₁:=⟨("heaps",some (.w (HW hs h5)))::("low",some (.w (.int low)))::("turn",some (.w (.int tn)))::("names",nm)::("flags",fl)::("due",none)::("octets",some (.w (.list ((ze5 low (hs.take 5)).map W.int))))::("heap",yk1 hs 5)::("tape",none)::("numbers",none)::("kinds",none)::T,[]⟩) (σ₁:=σ) ?_ (by rw [htk]; walk_at "less") (List.Sublist.refl _)
  conv=>arg 6; whnf
  have e5:(5:Nat)=(zd1 hs).length:=hlen.symm
  rw [e5]
  refine Ex1.for (items:=zd1 hs) (fun k=>⟨("heaps",some (.w (HW hs h5)))::("low",some (.w (.int low)))::("turn",some (.w (.int tn)))::("names",nm)::("flags",fl)::("due",none)::("octets",some (.w (.list ((ze5 low (hs.take k)).map W.int))))::("heap",yk1 hs k)::("tape",none)::("numbers",none)::("kinds",none)::T,[]⟩)
   (fun k=>⟨("heaps",some (.w (HW hs h5)))::("low",some (.w (.int low)))::("turn",some (.w (.int tn)))::("names",nm)::("flags",fl)::("due",none)::("octets",some (.w (.list ((ze5 low (hs.take k)).map W.int))))::("heap",some (.w (.int (hs.getD k 0:Nat))))::("tape",none)::("numbers",none)::("kinds",none)::T,[]⟩) (fun _=>σ) ?_ (fun _=>rfl) (fun k x hx=>?_) Ex.nil
  ·exact ItN.list (Ev.hcut hl5 (Ev.name (by walk_at "mem") (by kernel_rfl)))
  ·obtain ⟨hk,rfl⟩:=zk9 hx
   have hg:hs.getD k 0=hs[k]:=by simp [List.getD,hk]
   refine ⟨Bind.name (by rw [hg]; walk_at "setv"),.inl ?_⟩
   rw [zP3 low hs k hk,List.map_append]
   (have zq:=zD7 (numH low hs[k]) (hs[k]/8) (zE5 low hs[k] hlow); have q1:=zq.1; have q2:=zq.2.1; have q3:=zq.2.2.1; have q4:=zq.2.2.2.1)
   have c:=cOct σ (numH low hs[k]) _ (hs[k]/8) q2 q3 q1
   have l1:=zv6 low hlow (hs.take k)
   have l2:=zG9 low hs[k] hlow
   have l3:(hs.take k).length≤5:=by simp; lia
   show Ex K n env ⟨("heaps",some (.w (HW hs h5)))::("low",some (.w (.int low)))::("turn",some (.w (.int tn)))::("names",nm)::("flags",fl)::("due",none)::("octets",some (.w (.list ((ze5 low (hs.take k)).map W.int))))::("heap",some (.w (.int (hs.getD k 0:Nat))))::("tape",none)::("numbers",none)::("kinds",none)::T,[]⟩ σ _ _ 
    ⟨("heaps",some (.w (HW hs h5)))::("low",some (.w (.int low)))::("turn",some (.w (.int tn)))::("names",nm)::("flags",fl)::("due",none)::("octets",some (.w (.list ((ze5 low (hs.take k)).map W.int++(octH low hs[k]).map W.int))))::("heap",some (.w (.int (hs.getD k 0:Nat))))::("tape",none)::("numbers",none)::("kinds",none)::T,[]⟩ σ
   rw [hg]
   with_reducible apply Ex.one
   walk_at "as"
   refine Ev.bin (σ₁:=σ) ?_ ?_ (Opn.addL (by rw [sizeLine_eq]; simp only [List.length_map]; lia))
   ·walk_at "go"
   ·apply Ev.callG
    ·exact za0 he (by kernel_rfl)
    ·refine Evs.cons (Ev.mulPow (N:=hs[k]%8) (a:=low) (by lia) (by lia) (Ev.modN (m:=8) (by lia) ?_) ?_) (Evs.cons (Ev.divN (N:=hs[k]) (m:=8) (by lia) (by lia) ?_) Evs.nil (by rfl)) (by rfl)
     ·exact Ev.name (by walk_at "mem") (by kernel_rfl)
     ·exact Ev.name (by walk_at "mem") (by kernel_rfl)
     ·exact Ev.name (by walk_at "mem") (by kernel_rfl)
    ·exact c
    all_goals walk_at "auto"
 conv=>arg 6; arg 1; whnf
 refine ExF.assignN (o:=.iter ((ze5 low hs).map W.int++[.int (64+((tn%64:Nat):Int))])) (σ₁:=σ) ?_ (fun a=>⟨("heaps",some (.w (HW hs h5)))::("low",some (.w (.int low)))::("turn",some (.w (.int tn)))::("names",nm)::("flags",fl)::("due",none)::("octets",some (.w (.list ((ze5 low hs).map W.int))))::("heap",none)::("tape",some (.ref a))::("numbers",none)::("kinds",none)::T,[]⟩) (fun a=>by walk_at "setv") (fun a=>?_) (by rfl)
 ·have l1:=zv6 low hlow hs
  apply EvN.iter
  ·exact za0 he (by kernel_rfl)
  ·exact i1
  ·exact i2
  ·refine Ev.bin (σ₁:=σ) ?_ (Ev.list (xs:=[.int (64+((tn%64:Nat):Int))]) (EvW.cons (Ev.bin Ev.cint (Ev.modN (m:=64) (by lia) ?_) Opn.addI) EvW.nil (by rfl)) (by rw [sizeLine_eq]; simp)) (Opn.addL (by rw [sizeLine_eq]; simp only [List.length_map,List.length_cons,List.length_nil]; lia))
   ·walk_at "go"
   ·exact Ev.name (by walk_at "mem") (by kernel_rfl)
  all_goals walk_at "auto"
 let rs:Nat→List W:=fun k=>(ze5 low (hs.drop k)).map W.int++[.int (64+((tn%64:Nat):Int))]
 have rs5:rs (zd1 hs).length=[.int (64+((tn%64:Nat):Int))]:=by
  show (ze5 low (hs.drop (zd1 hs).length)).map W.int++_=_
  rw [hlen,List.drop_of_length_le (by lia)]; rfl
 refine ExF.cons (ρ₁:=⟨("heaps",some (.w (HW hs h5)))::("low",some (.w (.int low)))::("turn",some (.w (.int tn)))::("names",nm)::("flags",fl)::("due",none)::("octets",some (.w (.list ((ze5 low hs).map W.int))))::("heap",none)::("tape",some (.ref a))::("numbers",some (.w (.list (numW low hs))))::("kinds",none)::T,[]⟩) (σ₁:=(a,.iter [.int (64+((tn%64:Nat):Int))])::σ) ?_ ?_
 ·conv=>arg 6; whnf
  refine Ex1.toS (σ₁:=(fun k=>(a,O.iter (rs k))::σ) (zd1 hs).length) (Ex1.assignSteps (numW low hs) (fun k=>(a,O.iter (rs k))::σ) (by simp [numW,zd1]) (cs:=[("tape",.ref a)]) ?_ ?_ (by rw [sizeLine_eq,hlen]; lia) ?_ (by walk_at "setv") (zf0 he (by kernel_rfl)) (by intro _; rfl)) (by show (a,O.iter (rs (zd1 hs).length))::σ=_; rw [rs5])
  ·exact ItN.list (Ev.hcut hl5 (Ev.name (by walk_at "mem") (by kernel_rfl)))
  ·exact Caps.ofB ["heap"] (by kernel_rfl) (.cell (za0 he (by kernel_rfl)) (by walk_at "mem") .nil)
  ·intro ce hce k y z hy hz
   obtain ⟨hk,rfl⟩:=zk9 hy
   have ez:z = .int (numH low hs[k]:Nat):=by
    unfold numW at hz
    rw [List.getElem?_map,List.getElem?_eq_getElem hk] at hz
    exact (Option.some.inj hz).symm
   subst ez
   (have zq:=zD7 (numH low hs[k]) (hs[k]/8) (zE5 low hs[k] hlow); have q1:=zq.1; have q2:=zq.2.1; have q3:=zq.2.2.1; have q4:=zq.2.2.2.1; have q5:=zq.2.2.2.2.1; have q6:=zq.2.2.2.2.2.1; have q7:=zq.2.2.2.2.2.2.1; have q8:=zq.2.2.2.2.2.2.2)
   have c:=cVar σ a (octH low hs[k]) (rs (k+1)) _ q4 q5 q6 q7
   rw [show vAt (octH low hs[k]) _=_ from q8] at c
   have er:zj1 (octH low hs[k]) (rs (k+1)) 0=rs k:=by
    show ((octH low hs[k]).drop 0).map W.int++((ze5 low (hs.drop (k+1))).map W.int++_)=(ze5 low (hs.drop k)).map W.int++_
    rw [zP4 low hs k hk,List.map_append,List.append_assoc,List.drop_zero]
   rw [er] at c
   apply Ev.callG
   ·exact zd7 hce (by simp) (by kernel_rfl)
   ·exact Evs.cons (Ev.cap (by walk_at "mem") (by kernel_rfl) (by kernel_rfl)) Evs.nil (by rfl)
   ·exact c
   all_goals walk_at "auto"
 refine ExF.cons (ρ₁:=⟨("heaps",some (.w (HW hs h5)))::("low",some (.w (.int low)))::("turn",some (.w (.int tn)))::("names",nm)::("flags",fl)::("due",none)::("octets",some (.w (.list ((ze5 low hs).map W.int))))::("heap",none)::("tape",some (.ref a))::("numbers",some (.w (.list (numW low hs))))::("kinds",none)::T,[]⟩) (σ₁:=(a,.iter [.int (64+((tn%64:Nat):Int))])::σ) ?_ ?_
 ·conv=>arg 6; whnf
  refine Ex1.skip (t:=!true) ?_ rfl
  refine Ts.cmp (x:=.list (numW low hs)) (y:=.list (numW low hs)) (σ₁:=(a,.iter [.int (64+((tn%64:Nat):Int))])::σ) ?_ ?_ (Opn.neL (zx4 (numH low) hs)) (by walk_at "auto")
  ·walk_at "go"
  ·unfold numW
   rw [← zp6]
   refine Ev.compMap (f:=natF fun h=>W.int (numH low h:Nat)) (items:=zd1 hs) (cs:=[("low",.w (.int low))]) ?_ ?_ (by rw [sizeLine_eq,hlen]; lia) ?_ (by intro _; rfl)
   ·exact ItN.list (Ev.hcut hl5 (Ev.name (by walk_at "mem") (by kernel_rfl)))
   ·exact Caps.ofB ["heap"] (by kernel_rfl) (.cell (za0 he (by kernel_rfl)) (by walk_at "mem") .nil)
   ·intro ce hce y hy
    obtain ⟨k,hk0⟩:=List.getElem?_of_mem hy
    obtain ⟨hk,rfl⟩:=zk9 hk0
    refine .inr ⟨_,rfl,TsC.nil,?_⟩
    rw [Int.toNat_natCast]
    exact Ev.mulPow (N:=hs[k]%8) (a:=low) (by lia) (by lia) (Ev.modN (m:=8) (by lia) (Ev.name (by walk_at "mem") (by kernel_rfl))) (Ev.cap (by walk_at "mem") (by kernel_rfl) (by kernel_rfl))
 conv=>arg 6; arg 1; whnf
 apply ExF.tryStop (σ₁:=σ) (σ₂:=σ) (ρ₁:=⟨("heaps",some (.w (HW hs h5)))::("low",some (.w (.int low)))::("turn",some (.w (.int tn)))::("names",nm)::("flags",fl)::("due",none)::("octets",some (.w (.list ((ze5 low hs).map W.int))))::("heap",none)::("tape",some (.ref a))::("numbers",some (.w (.list (numW low hs))))::("kinds",some (.w (.list (kdW hs))))::T,[]⟩) hd
 ·apply EvX.callG
  ·exact za0 he (by kernel_rfl)
  ·exact hfv
  ·exact Cfv
  ·walk_at "go"
  ·exact xVar σ a _ (Nat.mod_lt _ (by lia))
  all_goals walk_at "auto"
 ·exact za0 he (by kernel_rfl)
 ·exact s1
 ·exact s2
 ·intro e
  with_reducible apply Ex.one
  unfold kdW
  rw [← zp6]
  refine Ex1.assignMap (f:=natF fun h=>W.int (kdH h:Nat)) (items:=zd1 hs) (cs:=[]) ?_ ?_ (by rw [sizeLine_eq,hlen]; lia) ?_ (by walk_at "setv") (zf0 he (by kernel_rfl)) (by intro _; rfl)
  ·exact ItN.list (Ev.hcut hl5 (Ev.name (by walk_at "mem") (by kernel_rfl)))
  ·exact Caps.ofB ["heap"] (by kernel_rfl) .nil
  ·intro ce hce y hy
   obtain ⟨k,hk0⟩:=List.getElem?_of_mem hy
   obtain ⟨hk,rfl⟩:=zk9 hk0
   refine .inr ⟨_,rfl,TsC.nil,?_⟩
   rw [Int.toNat_natCast]
   exact Ev.modN (m:=3) (by lia) (Ev.divN (m:=32) (by lia) (by lia) (Ev.name (by walk_at "mem") (by kernel_rfl)))
 ·exact ExF.pre h (by walk_at "less") (List.Sublist.refl _)
 all_goals walk_at "auto"
end
noncomputable def ltrC (m p:Nat):Nat:=if m.testBit p then 65+p else 97+p
noncomputable def ltr (m:Nat):List Nat:=[ltrC m 0,ltrC m 1,ltrC m 2]
noncomputable def preW (k:Nat):List Nat:=[L "..",L ".",L "."].getD k []
noncomputable def wdH (h:Nat):List Nat:=preW (kdH h)++ltr (h%8)
noncomputable def fmK (k m:Nat):List Nat:=[L "." ++ ltr m,L "\".\\" ++ ltr m++L "\"",L "\\." ++ ltr m].getD k []
noncomputable def fmH (h:Nat):List Nat:=fmK (kdH h) (h%8)
theorem zt9 (h:Nat):kdH h<3:=Nat.mod_lt _ (by exact Nat.succ_pos _)
theorem zR0 : ∀ m:Fin 8,(ltr m.val).length=3∧(ltr m.val).all (fun c=>decide (64<c)&&decide (c<100))=true:=by decide +kernel
theorem yd5 : ∀ k:Fin 3,(preW k.val).length≤2:=by decide +kernel
theorem zZ6 (low m k:Nat) (hlow:low<13) (hm:m<2 ^ 3) (hk:k<3):decide (za9 (low+k)∈fw low m)=m.testBit k:=by
 unfold fw
 by_cases hm2:za9 (low+k)∈dueN m low 3
 ·rw [decide_eq_true hm2]
  refine zd4 ((zT7 m low _ 3).mp hm2) fun i h1 h2 h3=>?_
  have:=zX4 ⟨low+k,by lia⟩ ⟨low+i,by lia⟩ h3
  have:k=i:=by
   have:=congrArg Fin.val this
   simp at this; exact this
  rw [this,h2]
 ·rw [decide_eq_false hm2]
  cases e:m.testBit k with
  | false=>rfl
  | true=>exact absurd ((zT7 m low _ 3).mpr ⟨k,hk,e,rfl⟩) hm2
theorem zr0 (low m:Nat) (hm:m<8):getW (za8 low 8) ((m:Nat):Int)=some (flW low m):=by
 unfold getW
 rw [if_neg (by simp),Int.toNat_natCast]
 simp [za8,hm]
theorem zt5 (f:Nat→W) (g:Nat→Nat) : ∀ hs:List Nat,(hs.map fun h=>W.int (g h:Nat)).filterMap (natF f)=hs.map fun h=>f (g h)
 | []=>rfl
 | h::hs=>by
  have ih:=zt5 f g hs
  simp [natF,ih]
theorem zQ2 (low h:Nat):numH low h/2 ^ low=h%8:=by unfold numH; exact Nat.mul_div_cancel _ (Nat.two_pow_pos _)
noncomputable def ownW (low:Nat) (hs:List Nat):List W:=hs.map fun h=>flW low (h%8)
noncomputable def letW (hs:List Nat):List W:=hs.map fun h=>W.str (ltr (h%8))
noncomputable def za2 (hs:List Nat):List W:=(hs.map wdH).map W.str
noncomputable def zn3 (hs:List Nat):List W:=(hs.map fmH).map W.str
theorem yh1 (f g:Nat→W) : ∀ hs:List Nat,zc2 (hs.map f) (hs.map g)=hs.map fun h=>W.tuple [f h,g h]
 | []=>rfl
 | h::hs=>by
  have ih:=yh1 f g hs
  unfold zc2 at *
  simp [ih]
noncomputable def zz1 (q:Nat→List Nat→List Nat):W→Option W
 | .tuple [.int k,.str w]=>some (.str (q k.toNat w))
 | _=>none
theorem zm1 (q:Nat→List Nat→List Nat) : ∀ hs:List Nat,(hs.map fun h=>W.tuple [.int (kdH h:Nat),.str (ltr (h%8))]).filterMap (zz1 q)=(hs.map fun h=>q (kdH h) (ltr (h%8))).map W.str
 | []=>rfl
 | h::hs=>by
  have ih:=zm1 q hs
  simp [zz1,ih]
noncomputable def lit3 (m:Nat):W→Option W
 | .int i=>some (.str [ltrC m i.toNat])
 | _=>none
theorem ym5 : ∀ m:Fin 8,∀ p:Fin 3,getS (if m.val.testBit p.val then L "ABC" else L "abc") ((p.val:Nat):Int)=some (ltrC m.val p.val):=by decide +kernel
section
variable {K:Kc} {n:Nat} {σ σ':List (Addr × O)} {env:Env} {T:List (Str × Option V)}
theorem law_c (he:env.scope=za4 ze0) (hd:K.hd=none) (r1:K.mg ("range" : Str)=none) (r2:K.mb ("range" : Str)=some (.type "range")) (z1:K.mg ("zip" : Str)=none) (z2:K.mb ("zip" : Str)=some (.type "zip"))
  (hs:List Nat) (low:Nat) (hl5:hs.length=5) (hlow:low<13) (hp tu:Option V) :
  Ex K n env ⟨("heaps",hp)::("low",some (.w (.int low)))::("turn",tu)::("names",some (.w (.list (nm3 low))))::("flags",some (.w (.list (za8 low 8))))::("due",none)::("numbers",some (.w (.list (numW low hs))))::("kinds",some (.w (.list (kdW hs))))::("own",none)::("letters",none)::("words",none)::("forms",none)::T,[]⟩ σ [lawS 12,lawS 13,lawS 14,lawS 15] .next
   ⟨("heaps",hp)::("low",none)::("turn",tu)::("names",none)::("flags",some (.w (.list (za8 low 8))))::("due",none)::("numbers",none)::("kinds",none)::("own",some (.w (.list (ownW low hs))))::("letters",none)::("words",some (.w (.list (za2 hs))))::("forms",some (.w (.list (zn3 hs))))::T,[]⟩ σ:=by
 refine Ex.less (ρ₁:=⟨("heaps",hp)::("low",some (.w (.int low)))::("turn",tu)::("names",some (.w (.list (nm3 low))))::("flags",some (.w (.list (za8 low 8))))::("due",none)::("numbers",some (.w (.list (numW low hs))))::("kinds",some (.w (.list (kdW hs))))::("own",some (.w (.list (ownW low hs))))::("letters",some (.w (.list (letW hs))))::("words",some (.w (.list (za2 hs))))::("forms",some (.w (.list (zn3 hs))))::T,[]⟩) (σ₁:=σ) ?_ (by walk_at "less") (List.Sublist.refl _)
 refine Ex.cons (ρ₁:=⟨("heaps",hp)::("low",some (.w (.int low)))::("turn",tu)::("names",some (.w (.list (nm3 low))))::("flags",some (.w (.list (za8 low 8))))::("due",none)::("numbers",some (.w (.list (numW low hs))))::("kinds",some (.w (.list (kdW hs))))::("own",some (.w (.list (ownW low hs))))::("letters",none)::("words",none)::("forms",none)::T,[]⟩) (σ₁:=σ) ?_ ?_
 ·have e:ownW low hs=(numW low hs).filterMap (natF fun N=>flW low (N/2 ^ low)):=by
   unfold numW; rw [zt5]; unfold ownW
   exact List.map_congr_left fun h _=>by rw [zQ2]
  rw [e]
  conv=>arg 6; whnf
  refine Ex1.assign (Ev.compMap (f:=natF fun N=>flW low (N/2 ^ low)) (items:=numW low hs) (cs:=[("flags",.w (.list (za8 low 8))),("low",.w (.int low))]) ?_ ?_ (by rw [sizeLine_eq]; simp [numW,hl5]) ?_ (by intro _; rfl)) (by walk_at "setv") (zh3 he (by kernel_rfl))
  ·exact ItN.list (Ev.name (by walk_at "mem") (by kernel_rfl))
  ·exact Caps.ofB ["number"] (by kernel_rfl) (.cell (za0 he (by kernel_rfl)) (by walk_at "mem") (.cell (za0 he (by kernel_rfl)) (by walk_at "mem") .nil))
  ·intro ce hce y hy
   (refine obEA (List.mem_map.mp hy) fun h hh zq2=>?_; subst zq2)
   refine .inr ⟨_,rfl,TsC.nil,?_⟩
   rw [Int.toNat_natCast]
   refine Ev.idxL (Ev.cap (by walk_at "mem") (by kernel_rfl) (by kernel_rfl)) (Ev.divPow (N:=numH low h) (a:=low) (by exact Nat.lt_of_lt_of_le ‹_› (by decide)) ?_ ?_) (by show _=some (flW low (numH low h/2 ^ low)); rw [zQ2]; exact zr0 low (h%8) (Nat.mod_lt _ (by exact Nat.succ_pos _)))
   ·exact Ev.name (by walk_at "mem") (by kernel_rfl)
   ·exact Ev.cap (by walk_at "mem") (by kernel_rfl) (by kernel_rfl)
 refine Ex.cons (ρ₁:=⟨("heaps",hp)::("low",some (.w (.int low)))::("turn",tu)::("names",some (.w (.list (nm3 low))))::("flags",some (.w (.list (za8 low 8))))::("due",none)::("numbers",some (.w (.list (numW low hs))))::("kinds",some (.w (.list (kdW hs))))::("own",some (.w (.list (ownW low hs))))::("letters",some (.w (.list (letW hs))))::("words",none)::("forms",none)::T,[]⟩) (σ₁:=σ) ?_ ?_
 ·conv=>arg 6; whnf
  refine Ex1.assignSteps (letW hs) (fun _=>σ) (by simp [letW,ownW]) (items:=ownW low hs) (cs:=[("names",.w (.list (nm3 low)))]) ?_ ?_ (by rw [sizeLine_eq]; simp [ownW,hl5]) ?_ (by walk_at "setv") (zf0 he (by kernel_rfl)) (by intro _; rfl)
  ·exact ItN.list (Ev.name (by walk_at "mem") (by kernel_rfl))
  ·exact Caps.ofB ["flag"] (by kernel_rfl) (.cell (za0 he (by kernel_rfl)) (by walk_at "mem") .nil)
  ·intro ce hce k y z hy hz
   unfold ownW at hy
   unfold letW at hz
   rw [List.getElem?_map] at hy hz
   (refine obEA (Option.map_eq_some_iff.mp hy) fun h hk zq2=>?_; subst zq2)
   rw [hk] at hz
   cases hz
   have hm:h%8<2 ^ 3:=Nat.mod_lt _ (by lia)
   dsimp only
   generalize h%8=m at *
   refine Ev.conv (v:=.w (.str (zb7 [] [[ltrC m 0],[ltrC m 1],[ltrC m 2]]))) ?_ rfl
   refine Ev.methS (q:=[]) (σ₁:=σ) (σ₂:=σ) (vs:=[.w (.list (([[ltrC m 0],[ltrC m 1],[ltrC m 2]]:List (List Nat)).map W.str))]) (Ev.cstr (by kernel_rfl) (by simp)) PySem.F.slot_str_join PySem.F.type_str_join ?_ (Fn.join (sep:=[]) (l:=[[ltrC m 0],[ltrC m 1],[ltrC m 2]]) (by simp)) (by rfl) (by decide) (by rfl) (by rfl)
   refine Evs.cons ?_ Evs.nil (by rfl)
   show Ev K n ce _ _ _ (.w (.list ((za3 0 1 3).filterMap (lit3 m)))) _
   refine Ev.compMap (f:=lit3 m) (items:=za3 0 1 3) (cs:=[("names",.w (.list (nm3 low))),("flag",.w (.list ((fw low m).map W.str)))]) ?_ ?_ (by rw [sizeLine_eq,za1]; exact Nat.le_add_left _ _) ?_ (by intro _; rfl)
   ·apply ItN.range1N (N:=3)
    ·exact zd7 hce (by simp) (by kernel_rfl)
    ·exact r1
    ·exact r2
    ·exact Ev.conv Ev.cint (by rfl)
    ·exact Nat.le_add_left _ _
    all_goals walk_at "auto"
   ·exact Caps.ofB ["place"] (by kernel_rfl) (.free (by walk_at "mem") (.cell (zd7 hce (by simp) (by kernel_rfl)) (by walk_at "mem") .nil))
   ·intro c2 hc2 y hy
    obtain ⟨i,hi0⟩:=List.getElem?_of_mem hy
    (have zq:=zb1 hi0; have hi:=zq.1; have zq1:=zq.2; subst zq1)
    refine .inr ⟨.str [ltrC m i],by simp [lit3],TsC.nil,?_⟩
    have ea:=ym5 ⟨m,hm⟩ ⟨i,hi⟩
    refine Ev.idxS (σ₁:=σ) (p:=if m.testBit i then L "ABC" else L "abc") (k:=((i:Nat):Int)) ?_ (Ev.name (by walk_at "mem") (by kernel_rfl)) ea
    refine Ev.ifexp (t:=m.testBit i) (σ₁:=σ) ?_ (fun h=>?_) (fun h=>?_)
    ·rw [← zZ6 low m i hlow hm hi]
     exact Ts.cmp (Ev.idxL (Ev.cap (by walk_at "mem") (by kernel_rfl) (by kernel_rfl)) (Ev.name (by walk_at "mem") (by kernel_rfl)) (zQ4 low i hi)) (Ev.cap (v:=.w (.list ((fw low m).map W.str))) (by walk_at "mem") (by kernel_rfl) (by kernel_rfl)) (Opn.inL (zk6 _ _)) (by rfl)
    ·rw [if_pos h]; exact Ev.str
    ·rw [h]; exact Ev.str
 have zlen:(zc2 (kdW hs) (letW hs)).length≤sizeLine:=by rw [sizeLine_eq]; simp [zc2,kdW,letW,hl5]
 have zmap:zc2 (kdW hs) (letW hs)=hs.map fun h=>W.tuple [.int (kdH h:Nat),.str (ltr (h%8))]:=yh1 _ _ hs
 have zit : ∀ {ρ:Lo} {q1 q2 q3 q4:Pos} {el:List Expr} {k:Nat},(("kinds" : Str),some (V.w (.list (kdW hs))))∈ρ.v→(("letters" : Str),some (V.w (.list (letW hs))))∈ρ.v→env.kindOf ("zip" : Str)=some .globalImplicit →
   ItN K n env ρ (.Call (.Name ("zip" : Str) q1) [.Name "kinds" q2,.Name "letters" q3] [] q4) σ (zc2 (kdW hs) (letW hs)) σ (.Tuple el k q1):=fun h1 h2 hk=>ItN.zip hd hk z1 z2 (Ev.name h1 (by kernel_rfl)) (Ev.name h2 (by kernel_rfl))
 have hlen : ∀ m,m<8→(ltr m).length=3:=fun m hm=>(zR0 ⟨m,hm⟩).1
 refine Ex.cons (ρ₁:=⟨("heaps",hp)::("low",some (.w (.int low)))::("turn",tu)::("names",some (.w (.list (nm3 low))))::("flags",some (.w (.list (za8 low 8))))::("due",none)::("numbers",some (.w (.list (numW low hs))))::("kinds",some (.w (.list (kdW hs))))::("own",some (.w (.list (ownW low hs))))::("letters",some (.w (.list (letW hs))))::("words",some (.w (.list (za2 hs))))::("forms",none)::T,[]⟩) (σ₁:=σ) ?_ ?_
 ·have e:za2 hs=(zc2 (kdW hs) (letW hs)).filterMap (zz1 fun k w=>preW k++w):=by rw [zmap,zm1]; rfl
  rw [e]
  conv=>arg 6; whnf
  refine Ex1.assignPair (items:=zc2 (kdW hs) (letW hs)) (cs:=[]) pa1 pa2 (zz1 fun k w=>preW k++w) hd (ItN.zip hd (za0 he (by kernel_rfl)) z1 z2 (Ev.name (by walk_at "mem") (by kernel_rfl)) (Ev.name (by walk_at "mem") (by kernel_rfl))) ?_ zlen (fun z hz=>zl6 hz) ?_ (by walk_at "setv") (zf0 he (by kernel_rfl)) (by intro _; rfl)
  ·exact Caps.ofB ["kind","word"] (by kernel_rfl) .nil
  ·intro ce hce z hz
   rw [zmap] at hz
   (refine obEA (List.mem_map.mp hz) fun h hh zq2=>?_; subst zq2)
   have hk:=zt9 h
   have hm:=hlen (h%8) (Nat.mod_lt _ (by lia))
   have hpl:=yd5 ⟨kdH h,hk⟩
   simp only at hpl
   refine .inr ⟨.str (preW (kdH h)++ltr (h%8)),by simp [zz1],TsC.nil,?_⟩
   simp only [pa1,pa2]
   refine Ev.bin (Ev.idxL (xs:=[.str (L ".."),.str (L "."),.str (L ".")]) (k:=((kdH h:Nat):Int)) (Ev.list (EvW.cons Ev.str (EvW.cons Ev.str (EvW.cons Ev.str EvW.nil (by rfl)) (by rfl)) (by rfl)) (by rw [sizeLine_eq]; simp)) (Ev.name (by walk_at "mem") (by kernel_rfl)) ?_) (Ev.name (by walk_at "mem") (by kernel_rfl)) (Opn.addS (by rw [sizeLine_eq]; lia))
   have : ∀ k:Fin 3,getW [.str (L ".."),.str (L "."),.str (L ".")] ((k.val:Nat):Int)=some (.str (preW k.val)):=by
    intro k
    match k with
    | ⟨0,_⟩=>rfl
    | ⟨1,_⟩=>rfl
    | ⟨2,_⟩=>rfl
   exact this ⟨kdH h,hk⟩
 ·have e:zn3 hs=(zc2 (kdW hs) (letW hs)).filterMap (zz1 fun k w=>[L "." ++ w,L "\".\\" ++ w++L "\"",L "\\." ++ w].getD k []):=by rw [zmap,zm1]; rfl
  rw [e]
  conv=>arg 6; arg 1; whnf
  with_reducible apply Ex.one
  refine Ex1.assignPair (items:=zc2 (kdW hs) (letW hs)) (cs:=[]) pa1 pa2 (zz1 fun k w=>[L "." ++ w,L "\".\\" ++ w++L "\"",L "\\." ++ w].getD k []) hd (ItN.zip hd (za0 he (by kernel_rfl)) z1 z2 (Ev.name (by walk_at "mem") (by kernel_rfl)) (Ev.name (by walk_at "mem") (by kernel_rfl))) ?_ zlen (fun z hz=>zl6 hz) ?_ (by walk_at "setv") (zf0 he (by kernel_rfl)) (by intro _; rfl)
  ·exact Caps.ofB ["kind","word"] (by kernel_rfl) .nil
  ·intro ce hce z hz
   rw [zmap] at hz
   (refine obEA (List.mem_map.mp hz) fun h hh zq2=>?_; subst zq2)
   have hk:=zt9 h
   have hm:=hlen (h%8) (Nat.mod_lt _ (by lia))
   have c1:(Str.ofString ".").cps.toList.length≤5:=by decide +kernel
   have c2:(Str.ofString "\".\\").cps.toList.length≤5:=by decide +kernel
   have c3:(Str.ofString "\"").cps.toList.length≤5:=by decide +kernel
   have c4:(Str.ofString "\\.").cps.toList.length≤5:=by decide +kernel
   refine .inr ⟨.str ([L "." ++ ltr (h%8),L "\".\\" ++ ltr (h%8)++L "\"",L "\\." ++ ltr (h%8)].getD (kdH h) []),by simp [zz1],TsC.nil,?_⟩
   simp only [pa1,pa2]
   generalize ltr (h%8)=w at *
   refine Ev.idxL (xs:=[.str (L "." ++ w),.str (L "\".\\" ++ w++L "\""),.str (L "\\." ++ w)]) (k:=((kdH h:Nat):Int)) (σ₁:=σ) (Ev.list ?_ (by rw [sizeLine_eq]; simp)) (Ev.name (by walk_at "mem") (by kernel_rfl)) ?_
   ·have wn : ∀ {q:Pos},Ev K n ce ⟨[("kind",some (.w (.int (kdH h:Nat)))),("word",some (.w (.str w)))],[]⟩ (.Name "word" q) σ (.w (.str w)) σ:=Ev.name (by walk_at "mem") (by kernel_rfl)
    refine EvW.cons (Ev.bin Ev.str wn (Opn.addS ?_)) (EvW.cons (Ev.bin (Ev.bin Ev.str wn (Opn.addS ?_)) Ev.str (Opn.addS ?_)) (EvW.cons (Ev.bin Ev.str wn (Opn.addS ?_)) EvW.nil (by rfl)) (by rfl)) (by rfl)
    all_goals (rw [sizeLine_eq]; first | lia | (simp only [List.length_append]; lia))
   ·generalize kdH h=k at hk
    have:k=0∨k=1∨k=2:=by lia
    rcases this with rfl | rfl | rfl <;> rfl
end
theorem zK1 (l:List (List Nat)):(List.range l.length).map (fun j=>l.getD j [])=l:=by
 apply List.ext_getElem
 ·simp
 ·intro i h1 h2; simp [List.getD,h2]
theorem zE7 (bare:List Int) (st:Nat) (rows:List (List Nat)) : ∀ k,zg4 bare st rows k=zh1 st ((List.range k).map fun j=>sepN bare j++rows.getD j []) 0
 | 0=>rfl
 | k+1=>by
  rw [List.range_succ,List.map_append,List.map_singleton,zt6, ← zE7 bare st rows k]
  simp only [zg4,List.length_map,List.length_range,Nat.zero_add,List.append_assoc]
theorem zT9 {r:List Nat} (h:zh0 r):(dotR r).count 10=0∧(dotR r).length≤r.length+1∧∀ c∈dotR r,c=46∨c∈r:=by
 have h0:r.count 10=0:=List.count_eq_zero.mpr fun hm=>(h 10 hm).1 rfl
 cases r with
 | nil=>exact ⟨rfl,by simp [dotR],fun c hc=>by simp [dotR] at hc⟩
 | cons a r =>
  have e:dotR (a::r)=if a=46 then 46::a::r else a::r:=rfl
  rw [e]
  split
  ·refine ⟨by rw [List.count_cons]; simp [h0],by simp,fun c hc=>by simp at hc ⊢; trivial⟩
  ·exact ⟨h0,by simp,fun c hc=>.inr hc⟩
theorem zp1 : ∀ rs:List (List Nat),(∀ r∈rs,zh0 r∧r.length≤40∧∀ c∈r,c<128)→c10 (zj8 rs)=rs.length∧(zj8 rs).length≤43*rs.length∧∀ c∈zj8 rs,c<128
 | [],_=>⟨rfl,by simp [zj8],fun c h=>by simp [zj8] at h⟩
 | r::rs,h=>by
  (have zq:=zp1 rs fun x hx=>h x (List.mem_cons_of_mem _ hx); have i1:=zq.1; have i2:=zq.2.1; have i3:=zq.2.2)
  (have zq:=h r List.mem_cons_self; have q1:=zq.1; have q2:=zq.2.1; have q3:=zq.2.2)
  (have zq:=zT9 q1; have d1:=zq.1; have d2:=zq.2.1; have d3:=zq.2.2)
  have e:zj8 (r::rs)=dotR r++([13,10]++zj8 rs):=by simp [zj8]
  rw [e]
  refine ⟨?_,?_,fun c hc=>?_⟩
  ·unfold c10 at *
   rw [List.count_append,List.count_append,d1]
   have:List.count 10 [13,10]=1:=by decide
   rw [this,List.length_cons]; lia
  ·simp only [List.length_append,List.length_cons,List.length_nil]; lia
  ·rcases List.mem_append.mp hc with hc | hc
   ·rcases d3 c hc with rfl | hc
    ·exact Nat.le_add_left _ _
    ·exact q3 c hc
   ·rcases List.mem_append.mp hc with hc | hc
    ·simp at hc; lia
    ·exact i3 c hc
noncomputable def bare7:List Int:=[0,1,2,3,4,5,6]
noncomputable def row7 (hs:List Nat):List (List Nat):=hs.map fmH++[[],[11,46]]
noncomputable def zb8 (tn:Nat) (hs:List Nat):List Nat:=zh5 (zg4 bare7 tn (row7 hs) (row7 hs).length)
theorem sep7 : ∀ j:Fin 7,sepN bare7 j.val=[]:=by decide +kernel
theorem zZ7 : ∀ k:Fin 3,∀ m:Fin 8,((fmK k.val m.val).all fun c=>c != 10&&c != 13&&decide (c<128))=true∧(fmK k.val m.val).length≤9:=by decide +kernel
theorem fm_ok (h:Nat):zh0 (fmH h)∧(fmH h).length≤9∧∀ c∈fmH h,c<128:=by
 (have zq:=zZ7 ⟨kdH h,zt9 h⟩ ⟨h%8,Nat.mod_lt _ (by exact Nat.succ_pos _)⟩; have h1:=zq.1; have h2:=zq.2)
 simp only [List.all_eq_true,Bool.and_eq_true,bne_iff_ne,ne_eq,decide_eq_true_eq] at h1
 exact ⟨fun c hc=>(h1 c hc).1,h2,fun c hc=>(h1 c hc).2⟩
theorem yd1 (k m:Nat) (hk:k<3) (hm:m<8):RowTok (dotR (fmK k m)) (preW k++ltr m):=by
 have h1:k=0∨k=1∨k=2:=by lia
 have h2:m=0∨m=1∨m=2∨m=3∨m=4∨m=5∨m=6∨m=7:=by lia
 rcases h1 with rfl | rfl | rfl <;> rcases h2 with rfl | rfl | rfl | rfl | rfl | rfl | rfl | rfl <;> first
  | exact ⟨6,[10],.inl rfl,fun X=>rfl,fun X=>rfl⟩
  | exact ⟨7,[13,10],.inr rfl,fun X=>rfl,fun X=>rfl⟩
theorem zS6 (tn:Nat) (hs:List Nat) (h5:hs.length=5):zb8 tn hs=zj8 (row7 hs)∧(row7 hs).length=7∧∀ r∈row7 hs,zh0 r∧r.length≤40∧∀ c∈r,c<128:=by
 have l7:(row7 hs).length=7:=by simp [row7,h5]
 have hp : ∀ r∈row7 hs,zh0 r∧r.length≤40∧∀ c∈r,c<128:=by
  intro r hr
  rcases List.mem_append.mp hr with hr | hr
  ·(refine obEA (List.mem_map.mp hr) fun h _ zq2=>?_; subst zq2)
   (have zq:=fm_ok h; have a:=zq.1; have b:=zq.2.1; have c:=zq.2.2)
   exact ⟨a,by exact Nat.le_trans ‹_› (by decide),c⟩
  ·simp only [List.mem_cons,List.not_mem_nil,or_false] at hr
   rcases hr with rfl | rfl
   ·exact ⟨fun c h=>by simp at h,by simp,fun c h=>by simp at h⟩
   ·exact ⟨fun c h=>by simp at h; lia,by simp,fun c h=>by simp at h; lia⟩
 refine ⟨?_,l7,hp⟩
 unfold zb8
 rw [zE7]
 have e:((List.range (row7 hs).length).map fun j=>sepN bare7 j++(row7 hs).getD j [])=row7 hs:=by
  conv=>rhs; rw [← zK1 (row7 hs)]
  refine List.map_congr_left fun j hj=>?_
  have:=sep7 ⟨j,by rw [List.mem_range] at hj; lia⟩
  simp only at this
  rw [this]; rfl
 rw [e]
 have:=zp4 tn [] (by simp) (row7 hs) fun r hr=>(hp r hr).1
 rw [List.append_nil] at this
 rw [this]
 show _++[]=_
 rw [List.append_nil]
theorem zu0 (tn:Nat) (hs:List Nat) (h5:hs.length=5):(∀ k h,hs[k]? = some h→zk7 (zb8 tn hs) k=wdH h)∧zk7 (zb8 tn hs) 5=[11,46]∧zk7 (zb8 tn hs) 6=[]∧(za7 (zb8 tn hs) 7).2=8∧(zb8 tn hs).length≤400∧(∀ c∈zb8 tn hs,c<128):=by
 (have zq:=zS6 tn hs h5; have e:=zq.1; have l7:=zq.2.1; have hp:=zq.2.2)
 (have zq:=zp1 _ hp; have f1:=zq.1; have f2:=zq.2.1; have f3:=zq.2.2)
 have es:remK (zb8 tn hs) 0=[]++(((hs.map fun h=>(dotR (fmH h),wdH h)).map fun p=>p.1++[13,10]).flatten++[13,10,11,46,13,10]):=by
  show zb8 tn hs=_
  rw [e]; simp [zj8,row7,dotR,List.map_map,Function.comp_def]
 obtain ⟨g1,pre,g2,g3⟩:=zo0 [13,10,11,46,13,10] (zb8 tn hs) _ [] 0 (fun p hp=>by
  (refine obEA (List.mem_map.mp hp) fun h _ zq2=>?_; subst zq2)
  exact yd1 _ _ (zt9 h) (Nat.mod_lt _ (by lia))) ws0 es
 rw [List.length_map,h5,Nat.zero_add] at g3
 have hw:zm9 (pre++[13,10]):=by
  refine yh3 ?_ ws2
  rcases g2 with ⟨rfl,_⟩ | rfl | rfl
  ·exact ws0
  ·exact ws1
  ·exact ws2
 have es2:remK (zb8 tn hs) 5=(pre++[13,10])++((([(([11,46]:List Nat),([11,46]:List Nat))]).map fun p=>p.1++[13,10]).flatten++[]):=by rw [g3]; simp
 obtain ⟨k1,pre2,k2,k3⟩:=zo0 [] (zb8 tn hs) _ (pre++[13,10]) 5 (fun p hp=>by
  rw [List.mem_singleton] at hp; subst hp
  exact RowTok.plain (by simp) (fac ⟨by decide,by decide,rfl⟩ (fac ⟨by decide,by decide,rfl⟩ fan))) hw es2
 rw [List.append_nil] at k3
 have k3:remK (zb8 tn hs) 6=pre2:=k3
 have hw2:zm9 pre2:=by
  rcases k2 with ⟨_,h⟩ | rfl | rfl
  ·cases h
  ·exact ws1
  ·exact ws2
 have t6:tokO (remK (zb8 tn hs) 6)=([],pre2.length+1):=by
  rw [k3]
  have:=zn9 [] pre2 hw2
  rw [List.append_nil] at this
  rw [this]; rfl
 refine ⟨fun k h hk=>?_,?_,?_,?_,by rw [e]; lia,by rw [e]; exact f3⟩
 ·rw [zo8]
  have:=g1 k (dotR (fmH h),wdH h) (by simp [hk])
  rw [Nat.zero_add] at this; exact this
 ·rw [zo8]
  exact k1 0 _ rfl
 ·rw [zo8,t6]
 ·have hl:=zw2 (zb8 tn hs) 7
  have r7:remK (zb8 tn hs) 7=[]:=by
   show (remK (zb8 tn hs) 6).drop _=[]
   rw [t6,k3]; exact List.drop_eq_nil_of_le (by simp)
  rw [r7,e,f1,l7, ← e] at hl
  have:c10 []=0:=rfl
  rw [this] at hl
  lia
noncomputable def zj3 (hs:List Nat) (k:Nat):List W:=((hs.take k).map wdH).map W.str
noncomputable def yb9 (hs:List Nat):Nat→Option V
 | 0=>none
 | k+1=>some (.w (.str (wdH (hs.getD k 0))))
theorem zC5 (hs:List Nat) (k:Nat) (hk:k<hs.length):zj3 hs (k+1)=zj3 hs k++[.str (wdH hs[k])]:=by
 unfold zj3
 rw [← List.take_append_getElem hk,List.map_append,List.map_append]; rfl
theorem yh4 (h:Nat):(wdH h).length≤5∧(∀ c∈wdH h,c<128):=by
 have : ∀ k:Fin 3,∀ m:Fin 8,(preW k.val++ltr m.val).length≤5∧((preW k.val++ltr m.val).all fun c=>decide (c<128))=true:=by decide +kernel
 (have zq:=this ⟨kdH h,zt9 h⟩ ⟨h%8,Nat.mod_lt _ (by exact Nat.succ_pos _)⟩; have h1:=zq.1; have h2:=zq.2)
 exact ⟨h1,fun c hc=>by simpa using List.all_eq_true.mp h2 c hc⟩
section
variable {K:Kc} {n:Nat} {σ σ':List (Addr × O)} {env:Env} {mN:Str→Option Value} {T:List (Str × Option V)}
theorem Ev.getTok (C:LexC K mN n) {ρ:Lo} {x:Str} {p1 p2 p3:Pos} {lx:Addr} {full:List Nat} {k:Nat} (hl:full.length≤400) (hc : ∀ c∈full,c<128) (hk:k≤10) (hx:Ev K n env ρ (.Name x p1) ((lx,.lex full (za7 full k).1 (za7 full k).2 [])::σ) (.ref lx) ((lx,.lex full (za7 full k).1 (za7 full k).2 [])::σ))
  (hline:(p2.endLine==p3.line)=true) (hb:attributeBase (.Name x p1) ("get_token" : Str) env (eval (.Name x p1) env)=eval (.Name x p1) env) :
  Ev K n env ρ (.Call (.Attribute (.Name x p1) ("get_token" : Str) p2) [] [] p3) ((lx,.lex full (za7 full k).1 (za7 full k).2 [])::σ) (.w (.str (zk7 full k))) ((lx,.lex full (za7 full (k+1)).1 (za7 full (k+1)).2 [])::σ):=by
 have hp:=zG8 full k
 have hp2:(za7 full k).1≤10*402:=Nat.le_trans hp (Nat.mul_le_mul hk (by lia))
 exact Ev.methO C.LK (a:=lx) (full:=full) (place:=(za7 full k).1) (line:=(za7 full k).2) (push:=[]) hx (by simp) zD9 (fun _ _ _ _ _=>zi5) Evs.nil (C.get hc (by lia) (by rw [sizeLine_eq]; exact Nat.le_trans ‹_› (by decide)) SetO.head) hb (by decide) hline (by rfl)
theorem zY8 (he:env.scope=za4 ze0) {P:Addr} {q:Str} (hP:(P,O.codes (zc1 q))∈σ) (cLex : ∀ (σ:List (Addr × O)) (full:List Nat),(P,O.codes (zc1 q))∈σ→zC3 K n "_law_lexer" [.w (.str full)] σ (.lex full 0 1 []) σ)
  (cSent : ∀ (σ:List (Addr × O)) (rows:List (List Nat)) (bare:List Int) (st:Nat),rows.length≤10→(∀ r∈rows,r.length≤40)→Calls K n "_law_sent" [.w (.list (rows.map W.str)),.w (.list (bare.map W.int)),.w (.int st)] σ (.w (.str (zh5 (zg4 bare st rows rows.length)))) σ)
  (hs:List Nat) (tn:Nat) (h5:hs.length=5) (hp fl ow:Option V) {rest:List Stmt} {o:Out} {ρ':Lo}
  (h : ∀ lx,Ex K n env ⟨("heaps",hp)::("turn",some (.w (.int tn)))::("flags",fl)::("due",none)::("own",ow)::("words",some (.w (.list (za2 hs))))::("forms",none)::("word",none)::("lexer",some (.ref lx))::T,[]⟩ ((lx,.lex (zb8 tn hs) 0 1 [])::σ) rest o ρ' σ') :
  Ex K n env ⟨("heaps",hp)::("turn",some (.w (.int tn)))::("flags",fl)::("due",none)::("own",ow)::("words",some (.w (.list (za2 hs))))::("forms",some (.w (.list (zn3 hs))))::("word",none)::("lexer",none)::T,[]⟩ σ (lawS 16::rest) o ρ' σ':=by
 (have zq:=zS6 tn hs h5; have l7:=zq.2.1; have hr:=zq.2.2)
 conv=>arg 6; arg 1; whnf
 refine Ex.assignN (o:=.lex (zb8 tn hs) 0 1 []) (σ₁:=σ) ?_ (fun lx=>⟨("heaps",hp)::("turn",some (.w (.int tn)))::("flags",fl)::("due",none)::("own",ow)::("words",some (.w (.list (za2 hs))))::("forms",some (.w (.list (zn3 hs))))::("word",none)::("lexer",some (.ref lx))::T,[]⟩) (fun lx=>by walk_at "setv") (fun lx=>Ex.pre (h lx) (by walk_at "less") (List.Sublist.refl _)) (by rfl)
 apply EvN.callG
 ·exact za0 he (by kernel_rfl)
 ·refine Evs.cons (v:=.w (.str (zb8 tn hs))) (σ₁:=σ) (σ':=σ) ?_ Evs.nil (by rfl)
  apply Ev.callG
  ·exact za0 he (by kernel_rfl)
  ·refine Evs.cons (v:=.w (.list ((row7 hs).map W.str))) (σ₁:=σ) ?_ (Evs.cons (v:=.w (.list (bare7.map W.int))) (σ₁:=σ) ?_ (Evs.cons (v:=.w (.int tn)) (σ₁:=σ) ?_ Evs.nil (by rfl)) (by rfl)) (by rfl)
   ·unfold row7
    rw [List.map_append]
    refine Ev.bin (σ₁:=σ) (Ev.name (v:=.w (.list (zn3 hs))) (by walk_at "mem") (by kernel_rfl)) (Ev.list (EvW.cons (Ev.cstr (l:=[]) (by kernel_rfl) (by simp)) (EvW.cons (Ev.cstr (l:=[11,46]) (by kernel_rfl) (by rw [sizeLine_eq]; simp)) EvW.nil (by rfl)) (by rfl)) (by rw [sizeLine_eq]; simp)) (Opn.addL (by rw [sizeLine_eq]; simp [zn3,h5]))
   ·refine Ev.conv (v:=.w (.list [.int 0,.int 1,.int 2,.int 3,.int 4,.int 5,.int 6])) (Ev.list ?_ (by rw [sizeLine_eq]; decide)) rfl
    walk_at "go"
   ·exact Ev.name (by walk_at "mem") (by kernel_rfl)
  ·exact cSent σ (row7 hs) bare7 tn (by omega) fun r h=>(hr r h).2.1
  all_goals walk_at "auto"
 ·exact cLex σ _ hP
 all_goals walk_at "auto"
theorem zY7 (he:env.scope=za4 ze0) (r1:K.mg ("range" : Str)=none) (r2:K.mb ("range" : Str)=some (.type "range")) (C:LexC K mN n) (hs:List Nat) (tn:Nat) (h5:hs.length=5) (lx:Addr) (hp fl ow:Option V) :
  Ex K n env ⟨("heaps",hp)::("turn",some (.w (.int tn)))::("flags",fl)::("due",none)::("own",ow)::("words",some (.w (.list (za2 hs))))::("forms",none)::("word",none)::("lexer",some (.ref lx))::T,[]⟩ ((lx,.lex (zb8 tn hs) 0 1 [])::σ) [lawS 17,lawS 18] .next
   ⟨("heaps",hp)::("turn",some (.w (.int tn)))::("flags",fl)::("due",none)::("own",ow)::("words",some (.w (.list (za2 hs))))::("forms",none)::("word",none)::("lexer",some (.ref lx))::T,[]⟩ ((lx,.lex (zb8 tn hs) (za7 (zb8 tn hs) 5).1 (za7 (zb8 tn hs) 5).2 (za2 hs))::σ):=by
 (have zq:=zu0 tn hs h5; have t1:=zq.1; have hl:=zq.2.2.2.2.1; have hc:=zq.2.2.2.2.2)
 generalize zb8 tn hs=M at *
 refine Ex.cons (ρ₁:=⟨("heaps",hp)::("turn",some (.w (.int tn)))::("flags",fl)::("due",none)::("own",ow)::("words",some (.w (.list (za2 hs))))::("forms",none)::("word",none)::("lexer",some (.ref lx))::T,[]⟩) (σ₁:=(lx,.lex M (za7 M 5).1 (za7 M 5).2 [])::σ) ?_ ?_
 ·conv=>arg 6; whnf
  refine Ex1.skip (t:=!true) ?_ rfl
  refine Ts.cmp (x:=.list (za2 hs)) (y:=.list (za2 hs)) (σ₁:=(lx,.lex M (za7 M 5).1 (za7 M 5).2 [])::σ) ?_ (Ev.name (by walk_at "mem") (by kernel_rfl)) (Opn.neL (zu6 _)) (by walk_at "auto")
  have e5:(za3 0 1 5).length=5:=za1 _ _ _
  refine Ev.compSteps (items:=za3 0 1 5) (za2 hs) (fun k=>(lx,.lex M (za7 M k).1 (za7 M k).2 [])::σ) (by rw [e5]; simp [za2,h5]) (cs:=[("lexer",.ref lx)]) ?_ ?_ (by rw [sizeLine_eq,e5]; exact Nat.le_add_left _ _) ?_ (by intro _; rfl)
  ·show ItN K n env _ _ ((lx,O.lex M 0 1 [])::σ) _ ((lx,O.lex M 0 1 [])::σ) _
   apply ItN.range1N (N:=5)
   ·exact za0 he (by kernel_rfl)
   ·exact r1
   ·exact r2
   ·exact Ev.conv Ev.cint (by rfl)
   ·exact Nat.le_add_left _ _
   all_goals walk_at "auto"
  ·exact Caps.ofB ["place"] (by kernel_rfl) (.cell (za0 he (by kernel_rfl)) (by walk_at "mem") .nil)
  ·intro ce hce k y z hy hz
   (have zq:=zb1 hy; have hk:=zq.1; have zq1:=zq.2; subst zq1)
   unfold za2 at hz
   rw [List.map_map,List.getElem?_map,List.getElem?_eq_getElem (by lia)] at hz
   cases hz
   show Ev K n ce _ _ _ (.w (.str (wdH hs[k]))) _
   rw [← t1 k hs[k] (List.getElem?_eq_getElem (by lia))]
   exact Ev.getTok C hl hc (by lia) (Ev.cap (by walk_at "mem") (by kernel_rfl) (by kernel_rfl)) (by rfl) (by rfl)
 ·have wN:zj3 hs 5=za2 hs:=by unfold zj3 za2; rw [List.take_of_length_le (by exact Nat.le_of_eq ‹_›)]
  have lw:(za2 hs).length=5:=by simp [za2,h5]
  conv=>arg 6; arg 1; whnf
  with_reducible apply Ex.one
  refine Ex1.less (ρ₁:=⟨("heaps",hp)::("turn",some (.w (.int tn)))::("flags",fl)::("due",none)::("own",ow)::("words",some (.w (.list (za2 hs))))::("forms",none)::("word",yb9 hs (za2 hs).length)::("lexer",some (.ref lx))::T,[]⟩) (σ₁:=(lx,.lex M (za7 M 5).1 (za7 M 5).2 (zj3 hs (za2 hs).length))::σ) ?_ (by walk_at "less") (by rw [lw,wN]; exact List.Sublist.refl _)
  refine Ex1.for (items:=za2 hs) (fun k=>⟨("heaps",hp)::("turn",some (.w (.int tn)))::("flags",fl)::("due",none)::("own",ow)::("words",some (.w (.list (za2 hs))))::("forms",none)::("word",yb9 hs k)::("lexer",some (.ref lx))::T,[]⟩)
   (fun k=>⟨("heaps",hp)::("turn",some (.w (.int tn)))::("flags",fl)::("due",none)::("own",ow)::("words",some (.w (.list (za2 hs))))::("forms",none)::("word",some (.w (.str (wdH (hs.getD k 0)))))::("lexer",some (.ref lx))::T,[]⟩)
   (fun k=>(lx,.lex M (za7 M 5).1 (za7 M 5).2 (zj3 hs k))::σ) ?_ (fun _=>rfl) (fun k x hx=>?_) Ex.nil
  ·exact ItN.list (Ev.name (by walk_at "mem") (by kernel_rfl))
  ·have hk:k<hs.length:=by have:=(List.getElem?_eq_some_iff.mp hx).1; lia
   have hg:hs.getD k 0=hs[k]:=by simp [List.getD,hk]
   have ex:x = .str (wdH hs[k]):=by
    unfold za2 at hx
    rw [List.map_map,List.getElem?_map,List.getElem?_eq_getElem hk] at hx
    exact (Option.some.inj hx).symm
   subst ex
   rw [hg,zC5 hs k hk]
   refine ⟨Bind.name (by walk_at "setv"),.inl ?_⟩
   have lN:(zj3 hs k).length≤5:=by simp [zj3]; lia
   generalize zj3 hs k=WN at *
   show Ex K n env ⟨("heaps",hp)::("turn",some (.w (.int tn)))::("flags",fl)::("due",none)::("own",ow)::("words",some (.w (.list (za2 hs))))::("forms",none)::("word",some (.w (.str (wdH hs[k]))))::("lexer",some (.ref lx))::T,[]⟩ _ _ _ ⟨("heaps",hp)::("turn",some (.w (.int tn)))::("flags",fl)::("due",none)::("own",ow)::("words",some (.w (.list (za2 hs))))::("forms",none)::("word",some (.w (.str (wdH (hs.getD k 0)))))::("lexer",some (.ref lx))::T,[]⟩ _
   rw [hg]
   with_reducible apply Ex.one
   refine Ex1.expr (v:=.w .none) ?_ (by rfl)
   exact Ev.methO C.LK (a:=lx) (full:=M) (place:=(za7 M 5).1) (line:=(za7 M 5).2) (push:=WN) (vs:=[.w (.str (wdH hs[k]))]) (σ₁:=(lx,.lex M (za7 M 5).1 (za7 M 5).2 WN)::σ) (Ev.name (by walk_at "mem") (by kernel_rfl)) (by simp) zH1 lmP (Evs.cons (Ev.name (by walk_at "mem") (by kernel_rfl)) Evs.nil (by rfl)) (C.push (by rw [sizeLine_eq]; exact Nat.lt_of_le_of_lt ‹_› (by decide)) SetO.head) (by rfl) (by decide) (by rfl) (by rfl)
end
noncomputable def preB (b:Bool):List Nat:=if b then L ".." else L "."
noncomputable def absI (a:Int):Int:=if a<0 then -a else a
noncomputable def zf6 (x y:List Nat):Int:=2*absI ((x.length:Int) - (y.length:Int))
theorem zR5 : ∀ b1 b2:Bool,∀ m1 m2:Fin 8,lev (preB b1++ltr m1.val) (preB b2++ltr m2.val) (3+zf6 (preB b1++ltr m1.val) (preB b2++ltr m2.val)) - zf6 (preB b1++ltr m1.val) (preB b2++ltr m2.val)=(hd3n m1.val m2.val:Int) ∧
  lev (preB b2++ltr m2.val) (preB b1++ltr m1.val) ((hd3n m1.val m2.val:Int)+zf6 (preB b1++ltr m1.val) (preB b2++ltr m2.val) - 2)=(hd3n m1.val m2.val:Int)+zf6 (preB b1++ltr m1.val) (preB b2++ltr m2.val) - min (hd3n m1.val m2.val:Int) 1:=by decide +kernel
theorem yi3 (h:Nat) : ∃ b,preW (kdH h)=preB b:=by
 have : ∀ k:Fin 3,preW k.val=preB (k.val==0):=by decide +kernel
 exact ⟨_,this ⟨kdH h,zt9 h⟩⟩
theorem yj5 (a b:Nat):lev (wdH a) (wdH b) (3+zf6 (wdH a) (wdH b)) - zf6 (wdH a) (wdH b)=(hd3n (a%8) (b%8):Int) ∧
  lev (wdH b) (wdH a) ((hd3n (a%8) (b%8):Int)+zf6 (wdH a) (wdH b) - 2)=(hd3n (a%8) (b%8):Int)+zf6 (wdH a) (wdH b) - min (hd3n (a%8) (b%8):Int) 1:=by
 obtain ⟨b1,e1⟩:=yi3 a
 obtain ⟨b2,e2⟩:=yi3 b
 unfold wdH
 rw [e1,e2]
 exact zR5 b1 b2 ⟨a%8,Nat.mod_lt _ (by exact Nat.succ_pos _)⟩ ⟨b%8,Nat.mod_lt _ (by lia)⟩
noncomputable def wdQ (hs:List Nat) (k j:Nat):List W:=(za2 hs).drop (k+1+j)++((za2 hs).drop (k+1)).take j
theorem zi1 (hs:List Nat) (k:Nat) (hk:k<hs.length):(za2 hs)[k]? = some (.str (wdH hs[k])):=by simp [za2,hk]
theorem zV9 (hs:List Nat) (k j:Nat) (h:k+1+j<hs.length) : ∃ l,wdQ hs k j = .str (wdH hs[k+1+j])::l∧wdQ hs k (j+1)=l++[.str (wdH hs[k+1+j])]∧l.length≤hs.length:=by
 have hl:(za2 hs).length=hs.length:=by simp [za2]
 have e1:(za2 hs).drop (k+1+j) = .str (wdH hs[k+1+j])::(za2 hs).drop (k+1+(j+1)):=by
  rw [List.drop_eq_getElem_cons (by lia)]
  congr 1
  have:=zi1 hs (k+1+j) h
  rw [List.getElem?_eq_getElem (by lia)] at this
  exact Option.some.inj this
 have e2:((za2 hs).drop (k+1)).take (j+1)=((za2 hs).drop (k+1)).take j++[.str (wdH hs[k+1+j])]:=by
  have hj:j<((za2 hs).drop (k+1)).length:=by simp [hl]; lia
  rw [← List.take_append_getElem hj]
  congr 2
  rw [List.getElem_drop]
  have:=zi1 hs (k+1+j) h
  rw [List.getElem?_eq_getElem (by lia)] at this
  exact Option.some.inj this
 refine ⟨(za2 hs).drop (k+1+(j+1))++((za2 hs).drop (k+1)).take j,?_,?_,?_⟩
 ·unfold wdQ; rw [e1]; rfl
 ·unfold wdQ; rw [e2,List.append_assoc]
 ·simp only [List.length_append,List.length_drop,List.length_take,hl]; have:=Nat.min_le_left j (hs.length - (k+1)); lia
theorem yc3 (hs:List Nat) (k:Nat) (h5:hs.length=5) (hk:k<5):wdQ hs k (4 - k)=(za2 hs).drop (k+1)∧wdQ hs k 0=(za2 hs).drop (k+1):=by
 have hl:(za2 hs).length=5:=by simp [za2,h5]
 constructor
 ·unfold wdQ
  rw [List.drop_eq_nil_of_le (by omega),List.nil_append,List.take_of_length_le (by rw [List.length_drop,hl]; simp)]
 ·simp [wdQ]
noncomputable def gH (hs:List Nat) (k:Nat):Nat:=hs.getD k 0%8
noncomputable def rowF (hs:List Nat) (k j:Nat):List Int:=(List.range j).map fun i=>(hd3n (gH hs k) (gH hs (k+1+i)):Int)
noncomputable def farF (hs:List Nat):Nat→List Int
 | 0=>[]
 | k+1=>farF hs k++rowF hs k (4 - k)
theorem yf8 (hs:List Nat) (h5:hs.length=5):farF hs 5=farL (hs.map (· % 8)):=by
 match hs,h5 with
 | [a,b,c,d,e],_=>rfl
theorem zI2 (hs:List Nat) : ∀ k,(farF hs k).length≤4*k
 | 0=>by simp [farF]
 | k+1=>by
  have:=zI2 hs k
  simp only [farF,List.length_append,rowF,List.length_map,List.length_range]; lia
noncomputable def wdL (hs:List Nat):Nat→Option V
 | 0=>none
 | k+1=>some (.w (.str (wdH (hs.getD k 0))))
theorem yk5 (k:Nat) (h:k<4):wmem (.int k) [.int 0,.int 1,.int 2,.int 3]=some true:=by
 have:k=0∨k=1∨k=2∨k=3:=by lia
 rcases this with rfl | rfl | rfl | rfl <;> rfl
section
variable {K:Kc} {n:Nat} {σ σ':List (Addr × O)} {env:Env} {mN:Str→Option Value} {T:List (Str × Option V)}
theorem yj9 (he:env.scope=za4 ze0) (hd:K.hd=none) (r1:K.mg ("range" : Str)=none) (r2:K.mb ("range" : Str)=some (.type "range")) (a1:K.mg ("abs" : Str)=none) (a2:K.mb ("abs" : Str)=some (.builtin "abs"))
  (n1:K.mg ("len" : Str)=none) (n2:K.mb ("len" : Str)=some (.builtin "len")) (m1:K.mg ("min" : Str)=none) (m2:K.mb ("min" : Str)=some (.builtin "min")) (C:LexC K mN n)
  (cLev : ∀ (σ:List (Addr × O)) (x y:List Nat) (mc:Int),x.length≤40→y.length≤40→(∀ c∈x,c<128)→(∀ c∈y,c<128)→Calls K n "_levenshtein_distance" [.w (.str x),.w (.str y),.w (.int mc)] σ (.w (.int (lev x y mc))) σ)
  (hs:List Nat) (h5:hs.length=5) (k:Nat) (hk:k<5) (M:List Nat) (p:Nat) (ln:Int) (fa lx:Addr) (hp tu fl ow wo:Option V) (F:List Int) (hF:F.length≤20) {st:Stmt} (hst:st=(zK8 [lawS 20]).getD 2 stD) :
  Ex1 K n env ⟨("heaps",hp)::("turn",tu)::("flags",fl)::("due",none)::("own",ow)::("words",wo)::("word",none)::("lexer",some (.ref lx))::("far",some (.ref fa))::("place",some (.w (.int k)))::("one",some (.w (.str (wdH (hs.getD k 0)))))::("later",none)::("other",none)::("more",none)::("lies",none)::T,[]⟩ ((fa,.list (F.map W.int))::(lx,.lex M p ln (wdQ hs k 0))::σ) st .next
   ⟨("heaps",hp)::("turn",tu)::("flags",fl)::("due",none)::("own",ow)::("words",wo)::("word",none)::("lexer",some (.ref lx))::("far",some (.ref fa))::("place",some (.w (.int k)))::("one",some (.w (.str (wdH (hs.getD k 0)))))::("later",none)::("other",none)::("more",none)::("lies",none)::T,[]⟩ ((fa,.list ((F++rowF hs k (4 - k)).map W.int))::(lx,.lex M p ln (wdQ hs k (4 - k)))::σ):=by
 subst hst
 let lt:Nat→Option V:=fun j=>match j with | 0=>none | j+1=>some (.w (.int ((k:Nat)+1+(j:Nat)*1)))
 let ot:Nat→Option V:=fun j=>match j with | 0=>none | j+1=>some (.w (.str (wdH (hs.getD (k+1+j) 0))))
 let mt:Nat→Option V:=fun j=>match j with | 0=>none | j+1=>some (.w (.int (zf6 (wdH (hs.getD k 0)) (wdH (hs.getD (k+1+j) 0)))))
 let li:Nat→Option V:=fun j=>match j with | 0=>none | j+1=>some (.w (.int (hd3n (gH hs k) (gH hs (k+1+j)):Int)))
 have hN:(za3 ((k:Int)+1) 1 (5 - ((k:Int)+1)).toNat).length=4 - k:=by rw [za1]; lia
 refine Ex1.less (ρ₁:=⟨("heaps",hp)::("turn",tu)::("flags",fl)::("due",none)::("own",ow)::("words",wo)::("word",none)::("lexer",some (.ref lx))::("far",some (.ref fa))::("place",some (.w (.int k)))::("one",some (.w (.str (wdH (hs.getD k 0)))))::("later",lt (4 - k))::("other",ot (4 - k))::("more",mt (4 - k))::("lies",li (4 - k))::T,[]⟩) (σ₁:=(fa,.list ((F++rowF hs k (4 - k)).map W.int))::(lx,.lex M p ln (wdQ hs k (4 - k)))::σ) ?_ (by walk_at "less") (List.Sublist.refl _)
 conv=>arg 6; whnf
 rw [← hN]
 refine Ex1.for (items:=za3 ((k:Int)+1) 1 (5 - ((k:Int)+1)).toNat) (fun j=>⟨("heaps",hp)::("turn",tu)::("flags",fl)::("due",none)::("own",ow)::("words",wo)::("word",none)::("lexer",some (.ref lx))::("far",some (.ref fa))::("place",some (.w (.int k)))::("one",some (.w (.str (wdH (hs.getD k 0)))))::("later",lt j)::("other",ot j)::("more",mt j)::("lies",li j)::T,[]⟩)
  (fun j=>⟨("heaps",hp)::("turn",tu)::("flags",fl)::("due",none)::("own",ow)::("words",wo)::("word",none)::("lexer",some (.ref lx))::("far",some (.ref fa))::("place",some (.w (.int k)))::("one",some (.w (.str (wdH (hs.getD k 0)))))::("later",some (.w (.int ((k:Int)+1+(j:Int)*1))))::("other",ot j)::("more",mt j)::("lies",li j)::T,[]⟩)
  (fun j=>(fa,.list ((F++rowF hs k j).map W.int))::(lx,.lex M p ln (wdQ hs k j))::σ) ?_ (fun _=>rfl) (fun j x hx=>?_) Ex.nil
 ·have eF:F++rowF hs k 0=F:=by simp [rowF]
  show ItN K n env ⟨("heaps",hp)::("turn",tu)::("flags",fl)::("due",none)::("own",ow)::("words",wo)::("word",none)::("lexer",some (.ref lx))::("far",some (.ref fa))::("place",some (.w (.int k)))::("one",some (.w (.str (wdH (hs.getD k 0)))))::("later",none)::("other",none)::("more",none)::("lies",none)::T,[]⟩ _ _ _ ((fa,.list ((F++rowF hs k 0).map W.int))::(lx,.lex M p ln (wdQ hs k 0))::σ) _
  rw [eF]
  refine ItN.range2 (σ₁:=(fa,.list (F.map W.int))::(lx,.lex M p ln (wdQ hs k 0))::σ) (za0 he (by kernel_rfl)) r1 r2 (Ev.bin (Ev.name (by walk_at "mem") (by kernel_rfl)) Ev.cint Opn.addI) Ev.cint (by lia) (by decide) (by rfl) (by rfl) (by rfl)
 ·(have zq:=zt2 hx; have hj:=zq.1; have zq1:=zq.2; subst zq1)
  have hkj:k+1+j<hs.length:=by lia
  have hk5:k<hs.length:=by lia
  refine ⟨Bind.name (by walk_at "setv"),.inl ?_⟩
  refine zd4 (zV9 hs k j hkj) fun l e1 e2 e3=>?_
  have g1:hs.getD k 0=hs[k]:=by simp [List.getD,hk5]
  have g2:hs.getD (k+1+j) 0=hs[k+1+j]:=by simp [List.getD,hkj]
  have eR:(F++rowF hs k (j+1)).map W.int=(F++rowF hs k j).map W.int++[.int (hd3n (gH hs k) (gH hs (k+1+j)):Int)]:=by simp [rowF,List.range_succ]
  have lR:((F++rowF hs k j).map W.int).length≤25:=by simp [rowF]; lia
  (have zq:=yj5 (hs.getD k 0) (hs.getD (k+1+j) 0); have v1:=zq.1; have v2:=zq.2)
  have w1:=yh4 (hs.getD k 0)
  have w2:=yh4 (hs.getD (k+1+j) 0)
  have hlt:=yk7 (gH hs k) (gH hs (k+1+j))
  rw [eR,e2,e1]
  rw [← g2]
  have eg1:gH hs k=hs.getD k 0%8:=rfl
  have eg2:gH hs (k+1+j)=hs.getD (k+1+j) 0%8:=rfl
  rw [← eg1, ← eg2] at v1 v2
  show Ex K n env ⟨("heaps",hp)::("turn",tu)::("flags",fl)::("due",none)::("own",ow)::("words",wo)::("word",none)::("lexer",some (.ref lx))::("far",some (.ref fa))::("place",some (.w (.int k)))::("one",some (.w (.str (wdH (hs.getD k 0)))))::("later",some (.w (.int ((k:Int)+1+(j:Int)*1))))::("other",ot j)::("more",mt j)::("lies",li j)::T,[]⟩ _ _ _
   ⟨("heaps",hp)::("turn",tu)::("flags",fl)::("due",none)::("own",ow)::("words",wo)::("word",none)::("lexer",some (.ref lx))::("far",some (.ref fa))::("place",some (.w (.int k)))::("one",some (.w (.str (wdH (hs.getD k 0)))))::("later",some (.w (.int ((k:Int)+1+(j:Int)*1))))::("other",some (.w (.str (wdH (hs.getD (k+1+j) 0)))))::("more",some (.w (.int (zf6 (wdH (hs.getD k 0)) (wdH (hs.getD (k+1+j) 0))))))::("lies",some (.w (.int (hd3n (gH hs k) (gH hs (k+1+j)):Int))))::T,[]⟩ _
  generalize ot j=o0
  generalize mt j=m0
  generalize li j=l0
  generalize (F++rowF hs k j).map W.int=FL at *
  generalize hd3n (gH hs k) (gH hs (k+1+j))=D at *
  generalize wdH (hs.getD k 0)=x at *
  generalize wdH (hs.getD (k+1+j) 0)=y at *
  refine Ex.cons (ρ₁:=⟨("heaps",hp)::("turn",tu)::("flags",fl)::("due",none)::("own",ow)::("words",wo)::("word",none)::("lexer",some (.ref lx))::("far",some (.ref fa))::("place",some (.w (.int k)))::("one",some (.w (.str x)))::("later",some (.w (.int ((k:Int)+1+(j:Int)*1))))::("other",some (.w (.str y)))::("more",m0)::("lies",l0)::T,[]⟩) (σ₁:=(fa,.list FL)::(lx,.lex M p ln l)::σ) ?_ ?_
  ·walk_at "as"
   exact Ev.methO C.LK (a:=lx) (full:=M) (place:=p) (line:=ln) (push:=.str y::l) (Ev.name (by walk_at "mem") (by kernel_rfl)) (by walk_at "mem") zD9 (fun _ _ _ _ _=>zi5) Evs.nil (C.pop (.tail SetO.head)) (by rfl) (by decide) (by rfl) (by rfl)
  refine Ex.cons (ρ₁:=⟨("heaps",hp)::("turn",tu)::("flags",fl)::("due",none)::("own",ow)::("words",wo)::("word",none)::("lexer",some (.ref lx))::("far",some (.ref fa))::("place",some (.w (.int k)))::("one",some (.w (.str x)))::("later",some (.w (.int ((k:Int)+1+(j:Int)*1))))::("other",some (.w (.str y)))::("more",m0)::("lies",l0)::T,[]⟩) (σ₁:=(fa,.list FL)::(lx,.lex M p ln (l++[.str y]))::σ) ?_ ?_
  ·refine Ex1.expr (v:=.w .none) ?_ (by rfl)
   exact Ev.methO C.LK (a:=lx) (full:=M) (place:=p) (line:=ln) (push:=l) (vs:=[.w (.str y)]) (σ₁:=(fa,.list FL)::(lx,.lex M p ln l)::σ) (Ev.name (by walk_at "mem") (by kernel_rfl)) (by walk_at "mem") zH1 lmP (Evs.cons (Ev.name (by walk_at "mem") (by kernel_rfl)) Evs.nil (by rfl)) (C.push (by rw [sizeLine_eq]; lia) (.tail SetO.head)) (by rfl) (by decide) (by rfl) (by rfl)
  generalize hσ:(fa,O.list FL)::(lx,O.lex M p ln (l++[.str y]))::σ=σ1
  have lens : ∀ {ρ:Lo} {z:List Nat} {nm:Str} {q1 q2 q3:Pos},(nm,some (V.w (.str z)))∈ρ.v→(nm==("__debug__" : Str))=false→env.kindOf ("len" : Str)=some .globalImplicit→Ev K n env ρ (.Call (.Name ("len" : Str) q1) [.Name nm q2] [] q3) σ1 (.w (.int (z.length:Int))) σ1:=fun h1 h2 h3 =>
   Ev.callB h3 n1 n2 (Callee.builtin _) (Evs.cons (Ev.name h1 h2) Evs.nil (by rfl)) Fn.lenS (by kernel_rfl) (by rfl)
  refine Ex.cons (ρ₁:=⟨("heaps",hp)::("turn",tu)::("flags",fl)::("due",none)::("own",ow)::("words",wo)::("word",none)::("lexer",some (.ref lx))::("far",some (.ref fa))::("place",some (.w (.int k)))::("one",some (.w (.str x)))::("later",some (.w (.int ((k:Int)+1+(j:Int)*1))))::("other",some (.w (.str y)))::("more",some (.w (.int (zf6 x y))))::("lies",l0)::T,[]⟩) (σ₁:=σ1) ?_ ?_
  ·walk_at "as"
   refine Ev.bin (σ₁:=σ1) Ev.cint (Ev.callB (v:=.w (.int (absI ((x.length:Int) - (y.length:Int))))) (za0 he (by kernel_rfl)) a1 a2 (Callee.builtin _) (Evs.cons (Ev.bin (lens (by walk_at "mem") (by kernel_rfl) (za0 he (by kernel_rfl))) (lens (by walk_at "mem") (by kernel_rfl) (za0 he (by kernel_rfl))) Opn.subI) Evs.nil (by rfl)) Fn.abs (by kernel_rfl) (by rfl)) (Opn.mulI (IntMulOk.of_left (by decide)))
  refine Ex.cons (ρ₁:=⟨("heaps",hp)::("turn",tu)::("flags",fl)::("due",none)::("own",ow)::("words",wo)::("word",none)::("lexer",some (.ref lx))::("far",some (.ref fa))::("place",some (.w (.int k)))::("one",some (.w (.str x)))::("later",some (.w (.int ((k:Int)+1+(j:Int)*1))))::("other",some (.w (.str y)))::("more",some (.w (.int (zf6 x y))))::("lies",some (.w (.int (D:Int))))::T,[]⟩) (σ₁:=σ1) ?_ ?_
  ·refine Ex1.assign (v:=.w (.int (D:Int))) (Ev.conv (v:=.w (.int (lev x y (3+zf6 x y) - zf6 x y))) ?_ (by rw [v1])) (by walk_at "setv") (by rfl)
   refine Ev.bin (σ₁:=σ1) (Ev.callG (za0 he (by kernel_rfl)) ?_ (cLev σ1 x y _ (by lia) (by lia) w1.2 w2.2) (by kernel_rfl) (by rfl)) (Ev.name (by walk_at "mem") (by kernel_rfl)) Opn.subI
   exact Evs.cons (Ev.name (by walk_at "mem") (by kernel_rfl)) (Evs.cons (Ev.name (by walk_at "mem") (by kernel_rfl)) (Evs.cons (Ev.bin Ev.cint (Ev.name (by walk_at "mem") (by kernel_rfl)) Opn.addI) Evs.nil (by rfl)) (by rfl)) (by rfl)
  refine Ex.cons (ρ₁:=⟨("heaps",hp)::("turn",tu)::("flags",fl)::("due",none)::("own",ow)::("words",wo)::("word",none)::("lexer",some (.ref lx))::("far",some (.ref fa))::("place",some (.w (.int k)))::("one",some (.w (.str x)))::("later",some (.w (.int ((k:Int)+1+(j:Int)*1))))::("other",some (.w (.str y)))::("more",some (.w (.int (zf6 x y))))::("lies",some (.w (.int (D:Int))))::T,[]⟩) (σ₁:=σ1) ?_ ?_
  ·refine Ex1.skip (t:=!true) ?_ rfl
   refine Ts.cmp (x:=.int (D:Int)) (y:=.list [.int 0,.int 1,.int 2,.int 3]) (σ₁:=σ1) (Ev.name (by walk_at "mem") (by kernel_rfl)) (Ev.list ?_ (by rw [sizeLine_eq]; decide)) (Opn.notInL (yk5 D hlt)) (by walk_at "auto")
   walk_at "go"
  refine Ex.cons (ρ₁:=⟨("heaps",hp)::("turn",tu)::("flags",fl)::("due",none)::("own",ow)::("words",wo)::("word",none)::("lexer",some (.ref lx))::("far",some (.ref fa))::("place",some (.w (.int k)))::("one",some (.w (.str x)))::("later",some (.w (.int ((k:Int)+1+(j:Int)*1))))::("other",some (.w (.str y)))::("more",some (.w (.int (zf6 x y))))::("lies",some (.w (.int (D:Int))))::T,[]⟩) (σ₁:=σ1) ?_ ?_
  ·refine Ex1.skip (t:=false) ?_ rfl
   apply Ts.boolop
   refine TsL.and (b:=decide (((k:Int)+1+(j:Int)*1)=(k:Int)+1)) (σ₁:=σ1) ?_ (fun h=>?_) (fun _=>⟨rfl,rfl⟩)
   ·exact Ts.cmp (Ev.name (by walk_at "mem") (by kernel_rfl)) (Ev.bin (Ev.name (by walk_at "mem") (by kernel_rfl)) Ev.cint Opn.addI) Opn.eqI (by walk_at "auto")
   ·refine TsL.and (b:=!true) (σ₁:=σ1) ?_ (fun h=>by cases h) (fun _=>⟨rfl,rfl⟩)
    refine Ts.cmp (x:=.int ((D:Int)+zf6 x y - min (D:Int) 1)) (y:=.int ((D:Int)+zf6 x y - min (D:Int) 1)) (σ₁:=σ1) (Ev.conv (v:=.w (.int (lev y x ((D:Int)+zf6 x y - 2)))) ?_ (by rw [v2])) ?_ (by have:=Opn.neI (K:=K) (n:=n) (a:=(D:Int)+zf6 x y - min (D:Int) 1) (b:=(D:Int)+zf6 x y - min (D:Int) 1); simpa using this) (by walk_at "auto")
    ·refine Ev.callG (za0 he (by kernel_rfl)) ?_ (cLev σ1 y x _ (by lia) (by lia) w2.2 w1.2) (by kernel_rfl) (by rfl)
     exact Evs.cons (Ev.name (by walk_at "mem") (by kernel_rfl)) (Evs.cons (Ev.name (by walk_at "mem") (by kernel_rfl)) (Evs.cons (Ev.bin (Ev.bin (Ev.name (by walk_at "mem") (by kernel_rfl)) (Ev.name (by walk_at "mem") (by kernel_rfl)) Opn.addI) Ev.cint Opn.subI) Evs.nil (by rfl)) (by rfl)) (by rfl)
    ·refine Ev.bin (σ₁:=σ1) (Ev.bin (Ev.name (by walk_at "mem") (by kernel_rfl)) (Ev.name (by walk_at "mem") (by kernel_rfl)) Opn.addI) (Ev.callB (za0 he (by kernel_rfl)) m1 m2 (Callee.builtin _) (Evs.cons (Ev.name (by walk_at "mem") (by kernel_rfl)) (Evs.cons Ev.cint Evs.nil (by rfl)) (by rfl)) (Fn.min2 hd) (by kernel_rfl) (by rfl)) Opn.subI
  with_reducible apply Ex.one
  refine Ex1.expr (v:=.w .none) ?_ (by rfl)
  subst hσ
  exact Ev.methL (lv:=.ref fa) (σ₁:=(fa,O.list FL)::(lx,O.lex M p ln (l++[.str y]))::σ) (σ₂:=(fa,O.list FL)::(lx,O.lex M p ln (l++[.str y]))::σ) (vs:=[.w (.int (D:Int))]) (Ev.name (by walk_at "mem") (by kernel_rfl)) (.inr ⟨fa,FL,rfl,by walk_at "mem"⟩) PySem.F.slot_list_append PySem.F.type_list_append (Evs.cons (Ev.name (by walk_at "mem") (by kernel_rfl)) Evs.nil (by rfl)) (Fn.append (xs:=FL) SetO.head (by rw [sizeLine_eq]; exact Nat.lt_of_le_of_lt ‹_› (by decide))) (by rfl) (by decide) (by rfl) (by rfl)
end
section
variable {K:Kc} {n:Nat} {σ σ':List (Addr × O)} {env:Env} {mN:Str→Option Value} {T:List (Str × Option V)}
theorem zY6 (he:env.scope=za4 ze0) (hd:K.hd=none) (r1:K.mg ("range" : Str)=none) (r2:K.mb ("range" : Str)=some (.type "range")) (a1:K.mg ("abs" : Str)=none) (a2:K.mb ("abs" : Str)=some (.builtin "abs"))
  (n1:K.mg ("len" : Str)=none) (n2:K.mb ("len" : Str)=some (.builtin "len")) (m1:K.mg ("min" : Str)=none) (m2:K.mb ("min" : Str)=some (.builtin "min")) (C:LexC K mN n)
  (cLev : ∀ (σ:List (Addr × O)) (x y:List Nat) (mc:Int),x.length≤40→y.length≤40→(∀ c∈x,c<128)→(∀ c∈y,c<128)→Calls K n "_levenshtein_distance" [.w (.str x),.w (.str y),.w (.int mc)] σ (.w (.int (lev x y mc))) σ)
  (hs:List Nat) (h5:hs.length=5) (M:List Nat) (p:Nat) (ln:Int) (fa lx:Addr) (hp tu fl ow:Option V) :
  Ex1 K n env ⟨("heaps",hp)::("turn",tu)::("flags",fl)::("due",none)::("own",ow)::("words",some (.w (.list (za2 hs))))::("word",none)::("lexer",some (.ref lx))::("far",some (.ref fa))::("place",none)::("one",none)::("later",none)::("other",none)::("more",none)::("lies",none)::T,[]⟩ ((fa,.list [])::(lx,.lex M p ln (za2 hs))::σ) (lawS 20) .next
   ⟨("heaps",hp)::("turn",tu)::("flags",fl)::("due",none)::("own",ow)::("words",some (.w (.list (za2 hs))))::("word",none)::("lexer",some (.ref lx))::("far",some (.ref fa))::("place",none)::("one",none)::("later",none)::("other",none)::("more",none)::("lies",none)::T,[]⟩ ((fa,.list ((farF hs 5).map W.int))::(lx,.lex M p ln [])::σ):=by
 have hl:(za2 hs).length=5:=by simp [za2,h5]
 have e5:(za3 0 1 5).length=5:=za1 _ _ _
 refine Ex1.less (ρ₁:=⟨("heaps",hp)::("turn",tu)::("flags",fl)::("due",none)::("own",ow)::("words",some (.w (.list (za2 hs))))::("word",none)::("lexer",some (.ref lx))::("far",some (.ref fa))::("place",zm4 5)::("one",wdL hs 5)::("later",none)::("other",none)::("more",none)::("lies",none)::T,[]⟩) (σ₁:=(fa,.list ((farF hs 5).map W.int))::(lx,.lex M p ln ((za2 hs).drop 5))::σ) ?_ (by walk_at "less") (by rw [List.drop_eq_nil_of_le (by exact Nat.le_of_eq ‹_›)]; exact List.Sublist.refl _)
 conv=>arg 6; whnf
 refine Ex1.for (items:=za3 0 1 5) (fun k=>⟨("heaps",hp)::("turn",tu)::("flags",fl)::("due",none)::("own",ow)::("words",some (.w (.list (za2 hs))))::("word",none)::("lexer",some (.ref lx))::("far",some (.ref fa))::("place",zm4 k)::("one",wdL hs k)::("later",none)::("other",none)::("more",none)::("lies",none)::T,[]⟩)
  (fun k=>⟨("heaps",hp)::("turn",tu)::("flags",fl)::("due",none)::("own",ow)::("words",some (.w (.list (za2 hs))))::("word",none)::("lexer",some (.ref lx))::("far",some (.ref fa))::("place",some (.w (.int k)))::("one",wdL hs k)::("later",none)::("other",none)::("more",none)::("lies",none)::T,[]⟩)
  (fun k=>(fa,.list ((farF hs k).map W.int))::(lx,.lex M p ln ((za2 hs).drop k))::σ) ?_ (fun _=>rfl) (fun k x hx=>?_) Ex.nil
 ·show ItN K n env ⟨("heaps",hp)::("turn",tu)::("flags",fl)::("due",none)::("own",ow)::("words",some (.w (.list (za2 hs))))::("word",none)::("lexer",some (.ref lx))::("far",some (.ref fa))::("place",none)::("one",none)::("later",none)::("other",none)::("more",none)::("lies",none)::T,[]⟩ _ _ _ ((fa,.list [])::(lx,.lex M p ln (za2 hs))::σ) _
  apply ItN.range1N (N:=5)
  ·exact za0 he (by kernel_rfl)
  ·exact r1
  ·exact r2
  ·exact Ev.conv Ev.cint (by rfl)
  ·exact Nat.le_add_left _ _
  all_goals walk_at "auto"
 ·(have zq:=zb1 hx; have hk:=zq.1; have zq1:=zq.2; subst zq1)
  refine ⟨Bind.name (by walk_at "setv"),.inl ?_⟩
  have hk5:k<hs.length:=by lia
  have g1:hs.getD k 0=hs[k]:=by simp [List.getD,hk5]
  (have zq:=yc3 hs k h5 hk; have q1:=zq.1; have q2:=zq.2)
  have ed:(za2 hs).drop k = .str (wdH (hs.getD k 0))::(za2 hs).drop (k+1):=by
   rw [List.drop_eq_getElem_cons (by lia),g1]
   congr 1
   have:=zi1 hs k hk5
   rw [List.getElem?_eq_getElem (by lia)] at this
   exact Option.some.inj this
  have eF:farF hs (k+1)=farF hs k++rowF hs k (4 - k):=rfl
  have hF:=zI2 hs k
  have hgw:getW (za2 hs) ((k:Nat):Int)=some (.str (wdH (hs.getD k 0))):=by
   unfold getW
   rw [if_neg (by simp),Int.toNat_natCast,zi1 hs k hk5,g1]
  rw [eF,ed, ← q1]
  show Ex K n env ⟨("heaps",hp)::("turn",tu)::("flags",fl)::("due",none)::("own",ow)::("words",some (.w (.list (za2 hs))))::("word",none)::("lexer",some (.ref lx))::("far",some (.ref fa))::("place",some (.w (.int k)))::("one",wdL hs k)::("later",none)::("other",none)::("more",none)::("lies",none)::T,[]⟩ ((fa,.list ((farF hs k).map W.int))::(lx,.lex M p ln (.str (wdH (hs.getD k 0))::wdQ hs k (4 - k)))::σ) _ _
   ⟨("heaps",hp)::("turn",tu)::("flags",fl)::("due",none)::("own",ow)::("words",some (.w (.list (za2 hs))))::("word",none)::("lexer",some (.ref lx))::("far",some (.ref fa))::("place",some (.w (.int k)))::("one",some (.w (.str (wdH (hs.getD k 0)))))::("later",none)::("other",none)::("more",none)::("lies",none)::T,[]⟩ _
  generalize wdL hs k=o0
  generalize za2 hs=WL at hgw
  refine Ex.cons (ρ₁:=⟨("heaps",hp)::("turn",tu)::("flags",fl)::("due",none)::("own",ow)::("words",some (.w (.list WL)))::("word",none)::("lexer",some (.ref lx))::("far",some (.ref fa))::("place",some (.w (.int k)))::("one",some (.w (.str (wdH (hs.getD k 0)))))::("later",none)::("other",none)::("more",none)::("lies",none)::T,[]⟩) (σ₁:=(fa,.list ((farF hs k).map W.int))::(lx,.lex M p ln (wdQ hs k (4 - k)))::σ) ?_ ?_
  ·walk_at "as"
   exact Ev.methO C.LK (a:=lx) (full:=M) (place:=p) (line:=ln) (push:=.str (wdH (hs.getD k 0))::wdQ hs k (4 - k)) (Ev.name (by walk_at "mem") (by kernel_rfl)) (by walk_at "mem") zD9 (fun _ _ _ _ _=>zi5) Evs.nil (C.pop (.tail SetO.head)) (by rfl) (by decide) (by rfl) (by rfl)
  refine Ex.cons (ρ₁:=⟨("heaps",hp)::("turn",tu)::("flags",fl)::("due",none)::("own",ow)::("words",some (.w (.list WL)))::("word",none)::("lexer",some (.ref lx))::("far",some (.ref fa))::("place",some (.w (.int k)))::("one",some (.w (.str (wdH (hs.getD k 0)))))::("later",none)::("other",none)::("more",none)::("lies",none)::T,[]⟩) (σ₁:=(fa,.list ((farF hs k).map W.int))::(lx,.lex M p ln (wdQ hs k (4 - k)))::σ) ?_ ?_
  ·refine Ex1.skip (t:=!true) ?_ rfl
   exact Ts.cmp (Ev.name (by walk_at "mem") (by kernel_rfl)) (Ev.idxL (Ev.name (by walk_at "mem") (by kernel_rfl)) (Ev.name (by walk_at "mem") (by kernel_rfl)) hgw) (by have:=Opn.neS (K:=K) (n:=n) (p:=wdH (hs.getD k 0)) (q:=wdH (hs.getD k 0)); simpa using this) (by rfl)
  with_reducible apply Ex.one
  have hin:=yj9 (env:=env) (T:=T) (σ:=σ) he hd r1 r2 a1 a2 n1 n2 m1 m2 C cLev hs h5 k hk M p ln fa lx hp tu fl ow (some (.w (.list WL))) (farF hs k) (by lia) rfl
  rw [q2, ← q1] at hin
  exact hin
theorem zY5 (he:env.scope=za4 ze0) (C:LexC K mN n) (hs:List Nat) (tn:Nat) (h5:hs.length=5) (lx:Addr) (hp tu fl ow wo fr:Option V) :
  Ex1 K n env ⟨("heaps",hp)::("turn",tu)::("flags",fl)::("due",none)::("own",ow)::("words",wo)::("word",none)::("lexer",some (.ref lx))::("far",fr)::("place",none)::("one",none)::("later",none)::("other",none)::("more",none)::("lies",none)::T,[]⟩ ((lx,.lex (zb8 tn hs) (za7 (zb8 tn hs) 5).1 (za7 (zb8 tn hs) 5).2 [])::σ) (lawS 21) .next
   ⟨("heaps",hp)::("turn",tu)::("flags",fl)::("due",none)::("own",ow)::("words",none)::("word",none)::("lexer",none)::("far",fr)::("place",none)::("one",none)::("later",none)::("other",none)::("more",none)::("lies",none)::T,[]⟩ σ:=by
 (have zq:=zu0 tn hs h5; have t5:=zq.2.1; have t6:=zq.2.2.1; have t7:=zq.2.2.2.1; have hl:=zq.2.2.2.2.1; have hc:=zq.2.2.2.2.2)
 generalize zb8 tn hs=M at *
 refine Ex1.less (ρ₁:=⟨("heaps",hp)::("turn",tu)::("flags",fl)::("due",none)::("own",ow)::("words",wo)::("word",none)::("lexer",some (.ref lx))::("far",fr)::("place",none)::("one",none)::("later",none)::("other",none)::("more",none)::("lies",none)::T,[]⟩) (σ₁:=(lx,.lex M (za7 M 7).1 (za7 M 7).2 [])::σ) ?_ (by walk_at "less") (List.sublist_cons_self _ _)
 conv=>arg 6; whnf
 refine Ex1.skip (t:=false) ?_ rfl
 apply Ts.boolop
 refine TsL.or (b:=!true) (σ₁:=(lx,.lex M (za7 M 7).1 (za7 M 7).2 [])::σ) ?_ (fun _=>?_) (fun h=>by cases h)
 ·refine Ts.cmp (x:=.list [.str (zk7 M 5),.str (zk7 M 6)]) (y:=.list [.str [11,46],.str []]) (σ₁:=(lx,.lex M (za7 M 7).1 (za7 M 7).2 [])::σ) ?_ ?_ (Opn.neL (by rw [t5,t6]; rfl)) (by walk_at "auto")
  ·exact Ev.list (EvW.cons (Ev.getTok C hl hc (by lia) (Ev.name (by walk_at "mem") (by kernel_rfl)) (by rfl) (by rfl)) (EvW.cons (Ev.getTok C hl hc (by lia) (Ev.name (by walk_at "mem") (by kernel_rfl)) (by rfl) (by rfl)) EvW.nil (by rfl)) (by rfl)) (by rw [sizeLine_eq]; simp)
  ·exact Ev.list (EvW.cons (Ev.cstr (l:=[11,46]) (by kernel_rfl) (by rw [sizeLine_eq]; simp)) (EvW.cons (Ev.cstr (l:=[]) (by kernel_rfl) (by simp)) EvW.nil (by rfl)) (by rfl)) (by rw [sizeLine_eq]; simp)
 ·refine TsL.or (b:=!true) (σ₁:=(lx,.lex M (za7 M 7).1 (za7 M 7).2 [])::σ) ?_ (fun _=>TsL.or_nil) (fun h=>by cases h)
  exact Ts.cmp (x:=.int 8) (y:=.int 8) (Ev.conv (v:=.w (.int (za7 M 7).2)) (Ev.lexLine C.LK (Ev.name (by walk_at "mem") (by kernel_rfl)) (full:=M) (place:=(za7 M 7).1) (push:=[]) (by walk_at "mem")) (by rw [t7])) Ev.cint (by have:=Opn.neI (K:=K) (n:=n) (a:=8) (b:=8); simpa using this) (by walk_at "auto")
end
noncomputable def zf8 (g:Nat):List Nat:=(List.range 3).filter fun i=>g.testBit i
theorem yf5 (low g:Nat):fw low g=(zf8 g).map fun i=>za9 (low+i):=by
 have r3:List.range 3=[0,1,2]:=rfl
 unfold fw zf8
 rw [r3]
 simp only [dueN,List.filter_cons,List.filter_nil]
 cases g.testBit 0 <;> cases g.testBit 1 <;> cases g.testBit 2 <;> rfl
theorem ya8 (g:Nat) : ∀ i∈zf8 g,i<3:=fun i hi=>List.mem_range.mp (List.mem_filter.mp hi).1
noncomputable def chF (o w:List (List Nat)):W→Option W
 | .str x=>if (!decide (x∈o) || !decide (x∈w))=true then some (.str x) else none
 | _=>none
theorem zI8 (low g0 g1:Nat) (hlow:low<13) (h0:g0<2 ^ 3) (h1:g1<2 ^ 3) : ∀ l:List Nat,(∀ i∈l,i<3)→((l.map fun i=>za9 (low+i)).map W.str).filterMap (chF (fw low g0) (fw low g1))=(l.filter fun i=>!g0.testBit i || !g1.testBit i).map fun i=>W.str (za9 (low+i))
 | [],_=>rfl
 | i::l,h=>by
  have ih:=zI8 low g0 g1 hlow h0 h1 l fun x hx=>h x (List.mem_cons_of_mem _ hx)
  have hi:=h i List.mem_cons_self
  simp only [List.map_cons,List.filterMap_cons,chF,zZ6 low g0 i hlow h0 hi,zZ6 low g1 i hlow h1 hi,ih,List.filter_cons]
  cases (!g0.testBit i || !g1.testBit i) <;> rfl
theorem zT0 : ∀ k:Fin 7,((zf8 (gray k.val)++zf8 (gray (k.val+1))).filter fun i=>!(gray k.val).testBit i || !(gray (k.val+1)).testBit i)=[flip (k.val+1)]∧gray k.val<8∧gray (k.val+1)<8∧flip (k.val+1)<3:=by decide +kernel
theorem zM2 (low k:Nat) (hlow:low<13) (hk:k<7):((fw low (gray k)++fw low (gray (k+1))).map W.str).filterMap (chF (fw low (gray k)) (fw low (gray (k+1))))=[W.str (za9 (low+flip (k+1)))]:=by
 (have zq:=zT0 ⟨k,hk⟩; have q1:=zq.1; have q2:=zq.2.1; have q3:=zq.2.2.1; have q4:=zq.2.2.2)
 simp only at q1 q2 q3
 have:=zI8 low (gray k) (gray (k+1)) hlow q2 q3 (zf8 (gray k)++zf8 (gray (k+1))) fun i hi=>by
  rcases List.mem_append.mp hi with hi | hi <;> exact ya8 _ i hi
 rw [q1,List.map_append, ← yf5, ← yf5] at this
 exact this
theorem yk9 (low g:Nat):(fw low g).length=(zf8 g).length:=by rw [yf5,List.length_map]
noncomputable def rowS (hs:List Nat) (k:Nat):List (List Nat):=hs.map fun h=>List.replicate (1+cnt (h%8) k) 46
noncomputable def zB9 (hs:List Nat) (k:Nat):List Int:=((List.range 5).filter fun i=>(hs.getD i 0%8).testBit (flip (k+1))).map fun (i:Nat)=>(i:Int)
noncomputable def zc8 (k m:Nat):List Nat:=if m.testBit (flip (k+1)) then List.replicate (1+cnt m k+1) 46 else 32::List.replicate (1+cnt m k) 46
noncomputable def zs5 (hs:List Nat) (k:Nat):List (List Nat):=hs.map fun h=>zc8 k (h%8)
theorem zu4 (m:Nat) : ∀ k,cnt m k≤k
 | 0=>Nat.le_refl _
 | k+1=>by
  have:=zu4 m k
  show cnt m k+(if _ then 1 else 0)≤_
  split <;> lia
theorem zJ0 (hs:List Nat) (k j:Nat) (hj:j<5):((j:Nat):Int)∈zB9 hs k↔(hs.getD j 0%8).testBit (flip (k+1))=true:=by
 unfold zB9
 simp only [List.mem_map,List.mem_filter,List.mem_range]
 constructor
 ·rintro ⟨i,⟨_,h⟩,e⟩
  have:i=j:=by lia
  rw [← this]; exact h
 ·intro h
  exact ⟨j,⟨hj,h⟩,rfl⟩
theorem zX6 {α:Type} (F:Nat→α) (l:List Nat):(List.range l.length).map (fun j=>F (l.getD j 0))=l.map F:=by
 apply List.ext_getElem
 ·simp
 ·intro i h1 h2
  simp at h2
  simp [List.getD,h2]
noncomputable def zd0 (hs:List Nat) (st k:Nat):List Nat:=zh5 (zg4 (zB9 hs k) st (rowS hs k) (rowS hs k).length)
theorem zO5 (hs:List Nat) (st k:Nat) (h5:hs.length=5) (hk:k<8):zd0 hs st k=((zs5 hs k).map fun r=>r++[13,10]).flatten:=by
 have hl:(rowS hs k).length=5:=by simp [rowS,h5]
 unfold zd0
 rw [zE7,hl]
 have er : ∀ j,j<5→(rowS hs k).getD j []=List.replicate (1+cnt (hs.getD j 0%8) k) 46:=fun j hj=>by
  have hj2:j<hs.length:=by lia
  simp [rowS,List.getD,hj2]
 have hp : ∀ r∈(List.range 5).map (fun j=>sepN (zB9 hs k) j++(rowS hs k).getD j []),zh0 r:=by
  intro r hr c hc
  (refine obEA (List.mem_map.mp hr) fun j hj zq2=>?_; subst zq2)
  rw [er j (List.mem_range.mp hj)] at hc
  rcases List.mem_append.mp hc with hc | hc
  ·unfold sepN at hc
   split at hc
   ·simp at hc
   ·simp at hc; lia
  ·have:=(List.mem_replicate.mp hc).2
   lia
 have:=zp4 st [] (by simp) _ hp
 rw [List.append_nil] at this
 rw [this]
 show zj8 _++[]=_
 rw [List.append_nil]
 unfold zj8 zs5
 rw [List.map_map]
 have hm:=zX6 (fun h=>zc8 k (h%8)) hs
 rw [h5] at hm
 rw [← hm,List.map_map]
 congr 1
 refine List.map_congr_left fun j hj=>?_
 have hj:=List.mem_range.mp hj
 simp only [Function.comp]
 rw [er j hj]
 congr 1
 unfold sepN zc8
 by_cases hb:(hs.getD j 0%8).testBit (flip (k+1))=true
 ·rw [if_pos ((zJ0 hs k j hj).mpr hb),if_pos hb]
  have e1:(1+cnt (hs.getD j 0%8) k)=cnt (hs.getD j 0%8) k+1:=by exact Nat.add_comm _ _
  rw [e1]
  simp [List.replicate_succ,dotR]
 ·rw [if_neg (fun h=>hb ((zJ0 hs k j hj).mp h)),if_neg hb]
  rfl
theorem zA4 : ∀ ws:List (List Nat),(ws.map fun r=>r++[13,10]).flatten=zb7 [13,10] (ws++[[]])
 | []=>rfl
 | [w]=>by simp [zb7]
 | w::q::r=>by
  have ih:=zA4 (q::r)
  have e:zb7 [13,10] ((w::q::r)++[[]])=w++[13,10]++zb7 [13,10] ((q::r)++[[]]):=rfl
  rw [e, ← ih]
  simp
theorem zf3 (k m:Nat) (hk:k<8):(13:Nat)∉zc8 k m∧(zc8 k m).length≤10∧∀ c∈zc8 k m,c<128:=by
 have hc:=zu4 m k
 unfold zc8
 split
 ·refine ⟨fun h=>?_,by simp; lia,fun c h=>?_⟩
  ·have:=(List.mem_replicate.mp h).2; contradiction
  ·have:=(List.mem_replicate.mp h).2; lia
 ·refine ⟨fun h=>?_,by simp; lia,fun c h=>?_⟩
  ·rcases List.mem_cons.mp h with h | h
   ·contradiction
   ·have:=(List.mem_replicate.mp h).2; lia
  ·rcases List.mem_cons.mp h with h | h
   ·lia
   ·have:=(List.mem_replicate.mp h).2; lia
theorem zJ8 (hs:List Nat) (st k:Nat) (h5:hs.length=5) (hk:k<8):zf1 (zd0 hs st k) [13,10]=zs5 hs k++[[]]:=by
 rw [zO5 hs st k h5 hk,zA4]
 refine zl7 _ (by simp) fun w hw=>?_
 rcases List.mem_append.mp hw with hw | hw
 ·(refine obEA (List.mem_map.mp hw) fun h _ zq2=>?_; subst zq2)
  exact (zf3 k _ hk).1
 ·simp at hw; subst hw; simp
theorem zy5 : ∀ n:Fin 12,Txt.stripChars ⟨(List.replicate n.val 46).toArray⟩ ⟨([32]:List Nat).toArray⟩=⟨(List.replicate n.val 46).toArray⟩∧Txt.stripChars ⟨(32::List.replicate n.val 46).toArray⟩ ⟨([32]:List Nat).toArray⟩=⟨(List.replicate n.val 46).toArray⟩:=by decide +kernel
theorem zN9 (k m:Nat) (hk:k<8):Txt.stripChars ⟨(zc8 k m).toArray⟩ ⟨([32]:List Nat).toArray⟩=⟨(List.replicate (1+cnt m (k+1)) 46).toArray⟩:=by
 have hc:=zu4 m k
 have e:cnt m (k+1)=cnt m k+if m.testBit (flip (k+1)) then 1 else 0:=rfl
 unfold zc8
 rw [e]
 split
 ·exact (zy5 ⟨1+cnt m k+1,by lia⟩).1
 ·exact (zy5 ⟨1+cnt m k,by lia⟩).2
noncomputable def metP (low:Nat) (ms:List Nat):Nat→W
 | 0=>.list [.int 0,.int 25]
 | s+1=>.list [.int ((fw low (gray (s+1))).length:Nat),.int ((5 - 2*((evN (s+1) ms:Nat):Int)) ^ (2:Int).toNat)]
noncomputable def metL (low:Nat) (ms:List Nat) (k:Nat):List W:=(List.range k).map (metP low ms)
noncomputable abbrev ze2 (hs:List Nat) (k:Nat):List W:=(rowS hs k).map W.str
theorem rows0 (hs:List Nat) (h5:hs.length=5):repL [.str [46]] 5=ze2 hs 0:=by
 match hs,h5 with
 | [a,b,c,d,e],_=>rfl
theorem yk8 : ∀ k:Fin 7,Builtin.bitXor ((1:Int)+((k.val:Nat):Int)*1 - 1) (((1:Int)+((k.val:Nat):Int)*1 - 1)/2)=((gray k.val:Nat):Int)∧Builtin.bitXor ((1:Int)+((k.val:Nat):Int)*1) (((1:Int)+((k.val:Nat):Int)*1)/2)=((gray (k.val+1):Nat):Int):=by decide +kernel
theorem zU1 {α:Type} (l:List α) (x:α):cut1 none (some (-1)) (l++[x])=l:=by
 unfold cut1 ze1
 have e2:(-1+(((l++[x]).length:Nat):Int)).toNat=l.length:=by rw [List.length_append]; simp; lia
 dsimp only
 rw [if_pos (by decide),e2]
 simp
noncomputable def evF:W→Option W
 | .str x=>if x.length%2==0 then some (.str x) else none
 | _=>none
theorem zI3 (k:Nat) : ∀ hs:List Nat,((ze2 hs k).filterMap evF).length=evN k (hs.map (· % 8))
 | []=>rfl
 | h::hs=>by
  have ih:=zI3 k hs
  have e:ze2 (h::hs) k = .str (List.replicate (1+cnt (h%8) k) 46)::ze2 hs k:=rfl
  have e2:evF (.str (List.replicate (1+cnt (h%8) k) 46))=if (1+cnt (h%8) k)%2==0 then some (.str (List.replicate (1+cnt (h%8) k) 46)) else none:=by simp [evF]
  rw [e,List.filterMap_cons,e2]
  unfold evN at *
  rw [List.map_cons,List.filter_cons]
  cases (1+cnt (h%8) k)%2==0 with
  | false=>exact ih
  | true=>exact congrArg (· + 1) ih
theorem yl5 (k:Nat) (ms:List Nat):evN k ms≤ms.length:=List.length_filter_le _ _
noncomputable def zU8 (hs:List Nat) (k:Nat):W→Option W
 | .int i=>if (hs.getD i.toNat 0%8).testBit (flip (k+1)) then some (.int i) else none
 | _=>none
theorem yl2 (p:Nat→Bool) (v:Nat→W) (f:W→Option W) (hf : ∀ i:Nat,f (.int i)=if p i then some (v i) else none) (n:Nat):(za3 0 1 n).filterMap f=((List.range n).filter p).map v:=by
 induction n with
 | zero=>rfl
 | succ n ih =>
  rw [zp3,List.filterMap_append,ih,List.range_succ,List.filter_append,List.map_append,show (0:Int)+(n:Int)*1=(n:Nat) by rw [Int.mul_one,Int.zero_add]]
  congr 1
  rw [List.filterMap_cons,List.filter_cons,hf]
  cases p n <;> rfl
theorem zM7 (hs:List Nat) (k:Nat):(za3 0 1 5).filterMap (zU8 hs k)=(zB9 hs k).map W.int:=by
 rw [yl2 (fun i=>(hs.getD i 0%8).testBit (flip (k+1))) (fun i=>.int (i:Nat)) (zU8 hs k) (fun i=>rfl)]
 unfold zB9
 rw [List.map_map]; rfl
theorem yd7 (low:Nat) (hs:List Nat) (k:Nat) (hk:k<hs.length):getW (ownW low hs) ((k:Nat):Int)=some (.list ((fw low (hs.getD k 0%8)).map W.str)):=by
 unfold getW
 rw [if_neg (by simp),Int.toNat_natCast]
 simp [ownW,hk,List.getD]
noncomputable def stp:Nat→Option V
 | 0=>none
 | k+1=>some (.w (.int (1+((k:Nat):Int)*1)))
noncomputable def snt (hs:List Nat) (tn:Nat):Nat→Option V
 | 0=>none
 | k+1=>some (.w (.str (zd0 hs (tn+(k+1)) k)))
section
variable {K:Kc} {n:Nat} {σ σ':List (Addr × O)} {env:Env} {mN:Str→Option Value} {T:List (Str × Option V)}
theorem zY4 (he:env.scope=za4 ze0) (r1:K.mg ("range" : Str)=none) (r2:K.mb ("range" : Str)=some (.type "range")) (n1:K.mg ("len" : Str)=none) (n2:K.mb ("len" : Str)=some (.builtin "len"))
  (cSent : ∀ (σ:List (Addr × O)) (rows:List (List Nat)) (bare:List Int) (st:Nat),rows.length≤10→(∀ r∈rows,r.length≤40)→Calls K n "_law_sent" [.w (.list (rows.map W.str)),.w (.list (bare.map W.int)),.w (.int st)] σ (.w (.str (zh5 (zg4 bare st rows rows.length)))) σ)
  (hs:List Nat) (h5:hs.length=5) (low tn:Nat) (hlow:low<13) (ma:Addr) (hp fr:Option V) :
  Ex1 K n env ⟨("heaps",hp)::("turn",some (.w (.int tn)))::("flags",some (.w (.list (za8 low 8))))::("due",none)::("own",some (.w (.list (ownW low hs))))::("far",fr)::("met",some (.ref ma))::("rows",some (.w (.list (ze2 hs 0))))::("step",none)::("old",none)::("new",none)::("changed",none)::("sent",none)::("even",none)::T,[]⟩ ((ma,.list (metL low (hs.map (· % 8)) 1))::σ) (lawS 24) .next
   ⟨("heaps",hp)::("turn",none)::("flags",none)::("due",none)::("own",none)::("far",fr)::("met",some (.ref ma))::("rows",none)::("step",none)::("old",none)::("new",none)::("changed",none)::("sent",some (.w (.str (zd0 hs (tn+7) 6))))::("even",none)::T,[]⟩ ((ma,.list (metL low (hs.map (· % 8)) 8))::σ):=by
 have hN:(za3 1 1 (8 - (1:Int)).toNat).length=7:=by rw [za1]; rfl
 refine Ex1.less (ρ₁:=⟨("heaps",hp)::("turn",some (.w (.int tn)))::("flags",some (.w (.list (za8 low 8))))::("due",none)::("own",some (.w (.list (ownW low hs))))::("far",fr)::("met",some (.ref ma))::("rows",some (.w (.list (ze2 hs 7))))::("step",stp 7)::("old",none)::("new",none)::("changed",none)::("sent",some (.w (.str (zd0 hs (tn+7) 6))))::("even",none)::T,[]⟩) (σ₁:=(ma,.list (metL low (hs.map (· % 8)) 8))::σ) ?_ (by walk_at "less") (List.Sublist.refl _)
 conv=>arg 6; whnf
 refine Ex1.for (items:=za3 1 1 (8 - (1:Int)).toNat) (fun k=>⟨("heaps",hp)::("turn",some (.w (.int tn)))::("flags",some (.w (.list (za8 low 8))))::("due",none)::("own",some (.w (.list (ownW low hs))))::("far",fr)::("met",some (.ref ma))::("rows",some (.w (.list (ze2 hs k))))::("step",stp k)::("old",none)::("new",none)::("changed",none)::("sent",snt hs tn k)::("even",none)::T,[]⟩)
  (fun k=>⟨("heaps",hp)::("turn",some (.w (.int tn)))::("flags",some (.w (.list (za8 low 8))))::("due",none)::("own",some (.w (.list (ownW low hs))))::("far",fr)::("met",some (.ref ma))::("rows",some (.w (.list (ze2 hs k))))::("step",some (.w (.int (1+((k:Nat):Int)*1))))::("old",none)::("new",none)::("changed",none)::("sent",snt hs tn k)::("even",none)::T,[]⟩)
  (fun k=>(ma,.list (metL low (hs.map (· % 8)) (k+1)))::σ) ?_ (fun _=>rfl) (fun k x hx=>?_) Ex.nil
 ·show ItN K n env ⟨("heaps",hp)::("turn",some (.w (.int tn)))::("flags",some (.w (.list (za8 low 8))))::("due",none)::("own",some (.w (.list (ownW low hs))))::("far",fr)::("met",some (.ref ma))::("rows",some (.w (.list (ze2 hs 0))))::("step",none)::("old",none)::("new",none)::("changed",none)::("sent",none)::("even",none)::T,[]⟩ _ _ _ _ _
  exact ItN.range2 (σ₁:=(ma,.list (metL low (hs.map (· % 8)) 1))::σ) (za0 he (by kernel_rfl)) r1 r2 Ev.cint Ev.cint (by decide) (by decide) (by rfl) (by rfl) (by rfl)
 ·(have zq:=zt2 hx; have hk0:=zq.1; have zq1:=zq.2; subst zq1)
  have hk:k<7:=by simpa using hk0
  refine ⟨Bind.name (by walk_at "setv"),.inl ?_⟩
  (have zq:=yk8 ⟨k,hk⟩; have x1:=zq.1; have x2:=zq.2)
  simp only at x1 x2
  (have zq:=zT0 ⟨k,hk⟩; have q2:=zq.2.1; have q3:=zq.2.2.1; have q4:=zq.2.2.2)
  simp only at q2 q3 q4
  have eM:metL low (hs.map (· % 8)) (k+1+1)=metL low (hs.map (· % 8)) (k+1)++[.list [.int ((fw low (gray (k+1))).length:Nat),.int ((5 - 2*((evN (k+1) (hs.map (· % 8)):Nat):Int)) ^ (2:Int).toNat)]]:=by
   unfold metL; rw [List.range_succ,List.map_append]; rfl
  have lM:(metL low (hs.map (· % 8)) (k+1)).length=k+1:=by simp [metL]
  have hev:evN (k+1) (hs.map (· % 8))≤5:=by have:=yl5 (k+1) (hs.map (· % 8)); simpa [h5] using this
  have hfl : ∀ g,(fw low g).length≤3:=fun g=>zi8 g low 3
  rw [eM]
  generalize metL low (hs.map (· % 8)) (k+1)=ML at *
  show Ex K n env ⟨("heaps",hp)::("turn",some (.w (.int tn)))::("flags",some (.w (.list (za8 low 8))))::("due",none)::("own",some (.w (.list (ownW low hs))))::("far",fr)::("met",some (.ref ma))::("rows",some (.w (.list (ze2 hs k))))::("step",some (.w (.int (1+((k:Nat):Int)*1))))::("old",none)::("new",none)::("changed",none)::("sent",snt hs tn k)::("even",none)::T,[]⟩ ((ma,.list ML)::σ) _ _
   ⟨("heaps",hp)::("turn",some (.w (.int tn)))::("flags",some (.w (.list (za8 low 8))))::("due",none)::("own",some (.w (.list (ownW low hs))))::("far",fr)::("met",some (.ref ma))::("rows",some (.w (.list (ze2 hs (k+1)))))::("step",some (.w (.int (1+((k:Nat):Int)*1))))::("old",none)::("new",none)::("changed",none)::("sent",some (.w (.str (zd0 hs (tn+(k+1)) k))))::("even",none)::T,[]⟩ _
  generalize snt hs tn k=s0
  generalize hst:(1:Int)+((k:Nat):Int)*1=stv at *
  refine Ex.less (ρ₁:=⟨("heaps",hp)::("turn",some (.w (.int tn)))::("flags",some (.w (.list (za8 low 8))))::("due",none)::("own",some (.w (.list (ownW low hs))))::("far",fr)::("met",some (.ref ma))::("rows",some (.w (.list (ze2 hs (k+1)))))::("step",some (.w (.int stv)))::("old",some (.w (.list ((fw low (gray k)).map W.str))))::("new",some (.w (.list ((fw low (gray (k+1))).map W.str))))::("changed",some (.w (.list [.str (za9 (low+flip (k+1)))])))::("sent",some (.w (.str (zd0 hs (tn+(k+1)) k))))::("even",some (.w (.int (evN (k+1) (hs.map (· % 8)):Nat))))::T,[]⟩) (σ₁:=(ma,.list (ML++[.list [.int ((fw low (gray (k+1))).length:Nat),.int ((5 - 2*((evN (k+1) (hs.map (· % 8)):Nat):Int)) ^ (2:Int).toNat)]]))::σ) ?_ (by walk_at "less") (List.Sublist.refl _)
  refine Ex.cons (ρ₁:=⟨("heaps",hp)::("turn",some (.w (.int tn)))::("flags",some (.w (.list (za8 low 8))))::("due",none)::("own",some (.w (.list (ownW low hs))))::("far",fr)::("met",some (.ref ma))::("rows",some (.w (.list (ze2 hs k))))::("step",some (.w (.int stv)))::("old",some (.w (.list ((fw low (gray k)).map W.str))))::("new",none)::("changed",none)::("sent",s0)::("even",none)::T,[]⟩) (σ₁:=(ma,.list ML)::σ) ?_ ?_
  ·walk_at "as"
   refine Ev.idxL (Ev.name (by walk_at "mem") (by kernel_rfl)) (Ev.conv (v:=.w (.int (Builtin.bitXor (stv - 1) ((stv - 1)/2)))) (Ev.bin (Ev.bin (Ev.name (by walk_at "mem") (by kernel_rfl)) Ev.cint Opn.subI) (Ev.bin (Ev.bin (Ev.name (by walk_at "mem") (by kernel_rfl)) Ev.cint Opn.subI) Ev.cint (Opn.divI (by decide) (PyProof.noPylong_small (by decide)))) Opn.xorI) (by rw [x1])) (zr0 low _ q2)
  refine Ex.cons (ρ₁:=⟨("heaps",hp)::("turn",some (.w (.int tn)))::("flags",some (.w (.list (za8 low 8))))::("due",none)::("own",some (.w (.list (ownW low hs))))::("far",fr)::("met",some (.ref ma))::("rows",some (.w (.list (ze2 hs k))))::("step",some (.w (.int stv)))::("old",some (.w (.list ((fw low (gray k)).map W.str))))::("new",some (.w (.list ((fw low (gray (k+1))).map W.str))))::("changed",none)::("sent",s0)::("even",none)::T,[]⟩) (σ₁:=(ma,.list ML)::σ) ?_ ?_
  ·walk_at "as"
   refine Ev.idxL (Ev.name (by walk_at "mem") (by kernel_rfl)) (Ev.conv (v:=.w (.int (Builtin.bitXor stv (stv/2)))) (Ev.bin (Ev.name (by walk_at "mem") (by kernel_rfl)) (Ev.bin (Ev.name (by walk_at "mem") (by kernel_rfl)) Ev.cint (Opn.divI (by decide) (PyProof.noPylong_small (by decide)))) Opn.xorI) (by rw [x2])) (zr0 low _ q3)
  refine Ex.cons (ρ₁:=⟨("heaps",hp)::("turn",some (.w (.int tn)))::("flags",some (.w (.list (za8 low 8))))::("due",none)::("own",some (.w (.list (ownW low hs))))::("far",fr)::("met",some (.ref ma))::("rows",some (.w (.list (ze2 hs k))))::("step",some (.w (.int stv)))::("old",some (.w (.list ((fw low (gray k)).map W.str))))::("new",some (.w (.list ((fw low (gray (k+1))).map W.str))))::("changed",some (.w (.list [.str (za9 (low+flip (k+1)))])))::("sent",s0)::("even",none)::T,[]⟩) (σ₁:=(ma,.list ML)::σ) ?_ ?_
  ·have l1:=hfl (gray k)
   have l2:=hfl (gray (k+1))
   refine Ex1.assign (v:=.w (.list [.str (za9 (low+flip (k+1)))])) (Ev.conv (v:=.w (.list (((fw low (gray k)).map W.str++(fw low (gray (k+1))).map W.str).filterMap (chF (fw low (gray k)) (fw low (gray (k+1))))))) ?_ (by rw [← List.map_append,zM2 low k hlow hk])) (by walk_at "setv") (zh3 he (by kernel_rfl))
   refine Ev.compMap (f:=chF (fw low (gray k)) (fw low (gray (k+1)))) (items:=(fw low (gray k)).map W.str++(fw low (gray (k+1))).map W.str) (cs:=[("old",.w (.list ((fw low (gray k)).map W.str))),("new",.w (.list ((fw low (gray (k+1))).map W.str)))]) ?_ ?_ (by rw [sizeLine_eq]; simp only [List.length_append,List.length_map]; lia) ?_ (by intro _; rfl)
   ·exact ItN.list (Ev.bin (Ev.name (by walk_at "mem") (by kernel_rfl)) (Ev.name (by walk_at "mem") (by kernel_rfl)) (Opn.addL (by rw [sizeLine_eq]; simp only [List.length_map]; lia)))
   ·exact Caps.ofB ["word"] (by kernel_rfl) (.cell (za0 he (by kernel_rfl)) (by walk_at "mem") (.cell (za0 he (by kernel_rfl)) (by walk_at "mem") .nil))
   ·intro ce hce y hy
    rw [← List.map_append] at hy
    (refine obEA (List.mem_map.mp hy) fun w _ zq2=>?_; subst zq2)
    have test : ∀ (p1 p2 p3 p4 p5 p6 p7:Pos),Ts K n ce ⟨[("word",some (.w (.str w)))],[("old",.w (.list ((fw low (gray k)).map W.str))),("new",.w (.list ((fw low (gray (k+1))).map W.str)))]⟩ (.BoolOp .Or [.Compare (.Name ("word" : Str) p1) [.NotIn] [.Name ("old" : Str) p2] p3,.Compare (.Name ("word" : Str) p4) [.NotIn] [.Name ("new" : Str) p5] p6] p7) ((ma,.list ML)::σ) (!decide (w∈fw low (gray k)) || !decide (w∈fw low (gray (k+1)))) ((ma,.list ML)::σ):=by
     intro p1 p2 p3 p4 p5 p6 p7
     apply Ts.boolop
     refine TsL.or (b:=!decide (w∈fw low (gray k))) (σ₁:=(ma,.list ML)::σ) ?_ (fun h=>?_) (fun h=>⟨rfl,by rw [h]; rfl⟩)
     ·exact Ts.cmp (Ev.name (by walk_at "mem") (by kernel_rfl)) (Ev.cap (by walk_at "mem") (by kernel_rfl) (by kernel_rfl)) (Opn.notInL (zk6 _ _)) (by rfl)
     ·rw [h,Bool.false_or]
      refine TsL.or (b:=!decide (w∈fw low (gray (k+1)))) (σ₁:=(ma,.list ML)::σ) ?_ (fun h=>by rw [h]; exact TsL.or_nil) (fun h=>⟨rfl,h⟩)
      exact Ts.cmp (Ev.name (by walk_at "mem") (by kernel_rfl)) (Ev.cap (by walk_at "mem") (by kernel_rfl) (by kernel_rfl)) (Opn.notInL (zk6 _ _)) (by rfl)
    cases hb:(!decide (w∈fw low (gray k)) || !decide (w∈fw low (gray (k+1)))) with
    | true=>exact .inr ⟨.str w,by simp only [chF,hb,if_true],TsC.one (Ts.conv (test _ _ _ _ _ _ _) hb),Ev.name (by walk_at "mem") (by kernel_rfl)⟩
    | false=>exact .inl ⟨by simp only [chF,hb]; rfl,TsC.one (Ts.conv (test _ _ _ _ _ _ _) hb)⟩
  refine Ex.cons (ρ₁:=⟨("heaps",hp)::("turn",some (.w (.int tn)))::("flags",some (.w (.list (za8 low 8))))::("due",none)::("own",some (.w (.list (ownW low hs))))::("far",fr)::("met",some (.ref ma))::("rows",some (.w (.list (ze2 hs k))))::("step",some (.w (.int stv)))::("old",some (.w (.list ((fw low (gray k)).map W.str))))::("new",some (.w (.list ((fw low (gray (k+1))).map W.str))))::("changed",some (.w (.list [.str (za9 (low+flip (k+1)))])))::("sent",some (.w (.str (zd0 hs (tn+(k+1)) k))))::("even",none)::T,[]⟩) (σ₁:=(ma,.list ML)::σ) ?_ ?_
  ·have hrl:(rowS hs k).length≤10:=by simp [rowS,h5]
   have hrr : ∀ r∈rowS hs k,r.length≤40:=fun r hr=>by
    (refine obEA (List.mem_map.mp hr) fun h _ zq2=>?_; subst zq2)
    have:=zu4 (h%8) k
    simp; lia
   have c:=cSent ((ma,.list ML)::σ) (rowS hs k) (zB9 hs k) (tn+(k+1)) hrl hrr
   walk_at "as"
   refine Ev.callG (za0 he (by kernel_rfl)) (Evs.cons (v:=.w (.list ((rowS hs k).map W.str))) (σ₁:=(ma,.list ML)::σ) (Ev.name (by walk_at "mem") (by kernel_rfl)) (Evs.cons (v:=.w (.list ((zB9 hs k).map W.int))) (σ₁:=(ma,.list ML)::σ) ?_ (Evs.cons (v:=.w (.int ((tn+(k+1):Nat):Int))) (σ₁:=(ma,.list ML)::σ) (Ev.conv (v:=.w (.int ((tn:Int)+stv))) (Ev.bin (Ev.name (by walk_at "mem") (by kernel_rfl)) (Ev.name (by walk_at "mem") (by kernel_rfl)) Opn.addI) (by rw [← hst]; congr 2; lia)) Evs.nil (by rfl)) (by rfl)) (by rfl)) c (by kernel_rfl) (by rfl)
   rw [← zM7]
   refine Ev.compMap (f:=zU8 hs k) (items:=za3 0 1 5) (cs:=[("changed",.w (.list [.str (za9 (low+flip (k+1)))])),("own",.w (.list (ownW low hs)))]) ?_ ?_ (by rw [sizeLine_eq,za1]; exact Nat.le_add_left _ _) ?_ (by intro _; rfl)
   ·apply ItN.range1N (N:=5)
    ·exact za0 he (by kernel_rfl)
    ·exact r1
    ·exact r2
    ·exact Ev.conv Ev.cint (by rfl)
    ·exact Nat.le_add_left _ _
    all_goals walk_at "auto"
   ·exact Caps.ofB ["place"] (by kernel_rfl) (.cell (za0 he (by kernel_rfl)) (by walk_at "mem") (.cell (za0 he (by kernel_rfl)) (by walk_at "mem") .nil))
   ·intro ce hce y hy
    obtain ⟨i,hi0⟩:=List.getElem?_of_mem hy
    (have zq:=zb1 hi0; have hi:=zq.1; have zq1:=zq.2; subst zq1)
    have hm8:hs.getD i 0%8<2 ^ 3:=Nat.mod_lt _ (by exact Nat.succ_pos _)
    have test : ∀ (p1 p2 p3 p4 p5 p6 p7:Pos) (k1:Nat),Ts K n ce ⟨[("place",some (.w (.int i)))],[("changed",.w (.list [.str (za9 (low+flip (k+1)))])),("own",.w (.list (ownW low hs)))]⟩ (.Compare (.Subscript (.Name ("changed" : Str) p1) (.Constant (.int 0) k1 p2) p3) [.In] [.Subscript (.Name ("own" : Str) p4) (.Name ("place" : Str) p5) p6] p7) ((ma,.list ML)::σ) ((hs.getD i 0%8).testBit (flip (k+1))) ((ma,.list ML)::σ):=by
     intro p1 p2 p3 p4 p5 p6 p7 k1
     rw [← zZ6 low _ _ hlow hm8 q4]
     exact Ts.cmp (Ev.idxL (Ev.cap (by walk_at "mem") (by kernel_rfl) (by kernel_rfl)) Ev.cint (by rfl)) (Ev.idxL (Ev.cap (by walk_at "mem") (by kernel_rfl) (by kernel_rfl)) (Ev.name (by walk_at "mem") (by kernel_rfl)) (yd7 low hs i (by lia))) (Opn.inL (zk6 _ _)) (by rfl)
    cases hb:(hs.getD i 0%8).testBit (flip (k+1)) with
    | true=>exact .inr ⟨.int (i:Nat),by simp only [zU8,Int.toNat_natCast,hb,if_true],TsC.one (Ts.conv (test _ _ _ _ _ _ _ _) hb),Ev.name (by walk_at "mem") (by kernel_rfl)⟩
    | false=>exact .inl ⟨by simp only [zU8,Int.toNat_natCast,hb]; rfl,TsC.one (Ts.conv (test _ _ _ _ _ _ _ _) hb)⟩
  refine Ex.cons (ρ₁:=⟨("heaps",hp)::("turn",some (.w (.int tn)))::("flags",some (.w (.list (za8 low 8))))::("due",none)::("own",some (.w (.list (ownW low hs))))::("far",fr)::("met",some (.ref ma))::("rows",some (.w (.list (ze2 hs (k+1)))))::("step",some (.w (.int stv)))::("old",some (.w (.list ((fw low (gray k)).map W.str))))::("new",some (.w (.list ((fw low (gray (k+1))).map W.str))))::("changed",some (.w (.list [.str (za9 (low+flip (k+1)))])))::("sent",some (.w (.str (zd0 hs (tn+(k+1)) k))))::("even",none)::T,[]⟩) (σ₁:=(ma,.list ML)::σ) ?_ ?_
  ·have hsp:=zJ8 hs (tn+(k+1)) k h5 (by exact Nat.le_succ_of_le ‹_›)
   have hsl:((zs5 hs k).map W.str).length=5:=by simp [zs5,h5]
   refine Ex1.assignSteps (ze2 hs (k+1)) (fun _=>(ma,.list ML)::σ) (by rw [hsl]; simp [ze2,rowS,h5]) (items:=(zs5 hs k).map W.str) (cs:=[]) ?_ ?_ (by rw [sizeLine_eq,hsl]; lia) ?_ (by walk_at "setv") (zf0 he (by kernel_rfl)) (by intro _; rfl)
   ·refine ItN.list (Ev.conv (v:=.w (.list (cut1 none (some (-1)) ((zs5 hs k++[[]]).map W.str)))) ?_ (by rw [List.map_append,List.map_singleton,zU1]))
    refine Ev.cutL (c:=none) (Ev.methS (q:=zd0 hs (tn+(k+1)) k) (σ₁:=(ma,.list ML)::σ) (σ₂:=(ma,.list ML)::σ) (vs:=[.w (.str [13,10])]) (Ev.name (by walk_at "mem") (by kernel_rfl)) PySem.F.slot_str_split PySem.F.type_str_split (Evs.cons (Ev.cstr (l:=[13,10]) (by kernel_rfl) (by rw [sizeLine_eq]; simp)) Evs.nil (by rfl)) ?_ (by rfl) (by decide) (by rfl) (by rfl)) EvO.nil (EvO.num (Ev.neg Ev.cint)) EvO.nil (.inl rfl)
    rw [← hsp]
    refine Fn.split (by simp) (fun x hx=>?_) ?_
    ·rw [hsp] at hx
     rcases List.mem_append.mp hx with hx | hx
     ·(refine obEA (List.mem_map.mp hx) fun h _ zq2=>?_; subst zq2)
      have:=(zf3 k (h%8) (by lia)).2.1
      rw [sizeLine_eq]; exact Nat.le_trans ‹_› (by decide)
     ·simp at hx; subst hx; simp
    ·rw [hsp,sizeLine_eq]; simp [zs5,h5]
   ·exact Caps.ofB ["row"] (by kernel_rfl) .nil
   ·intro ce hce j y z hy hz
    unfold zs5 at hy
    unfold ze2 rowS at hz
    rw [List.map_map,List.getElem?_map] at hy hz
    (refine obEA (Option.map_eq_some_iff.mp hy) fun h hj zq2=>?_; subst zq2)
    rw [hj] at hz
    cases hz
    have hnr:=(zf3 k (h%8) (by lia)).2.1
    have hcl:=zu4 (h%8) (k+1)
    show Ev K n ce ⟨[("row",some (.w (.str (zc8 k (h%8)))))],[]⟩ _ _ (.w (.str (List.replicate (1+cnt (h%8) (k+1)) 46))) _
    exact Ev.methS (q:=zc8 k (h%8)) (σ₁:=(ma,.list ML)::σ) (σ₂:=(ma,.list ML)::σ) (vs:=[.w (.str [32])]) (Ev.name (by walk_at "mem") (by kernel_rfl)) PySem.F.slot_str_strip PySem.F.type_str_strip (Evs.cons (Ev.cstr (l:=[32]) (by kernel_rfl) (by rw [sizeLine_eq]; simp)) Evs.nil (by rfl)) (Fn.strip (zN9 k (h%8) (by lia)) (by rw [sizeLine_eq]; exact Nat.le_trans ‹_› (by decide)) (by rw [sizeLine_eq]; simp; lia)) (by rfl) (by decide) (by rfl) (by rfl)
  refine Ex.cons (ρ₁:=⟨("heaps",hp)::("turn",some (.w (.int tn)))::("flags",some (.w (.list (za8 low 8))))::("due",none)::("own",some (.w (.list (ownW low hs))))::("far",fr)::("met",some (.ref ma))::("rows",some (.w (.list (ze2 hs (k+1)))))::("step",some (.w (.int stv)))::("old",some (.w (.list ((fw low (gray k)).map W.str))))::("new",some (.w (.list ((fw low (gray (k+1))).map W.str))))::("changed",some (.w (.list [.str (za9 (low+flip (k+1)))])))::("sent",some (.w (.str (zd0 hs (tn+(k+1)) k))))::("even",some (.w (.int (evN (k+1) (hs.map (· % 8)):Nat))))::T,[]⟩) (σ₁:=(ma,.list ML)::σ) ?_ ?_
  ·rw [← zI3]
   walk_at "as"
   refine Ev.callB (za0 he (by kernel_rfl)) n1 n2 (Callee.builtin _) (Evs.cons (v:=.w (.list ((ze2 hs (k+1)).filterMap evF))) (σ₁:=(ma,.list ML)::σ) ?_ Evs.nil (by rfl)) Fn.lenL (by kernel_rfl) (by rfl)
   refine Ev.compMap (f:=evF) (items:=ze2 hs (k+1)) (cs:=[]) (ItN.list (Ev.name (by walk_at "mem") (by kernel_rfl))) ?_ (by rw [sizeLine_eq]; simp [ze2,rowS,h5]) ?_ (by intro _; rfl)
   ·exact Caps.ofB ["row"] (by kernel_rfl) .nil
   ·intro ce hce y hy
    (refine obEA (List.mem_map.mp hy) fun w _ zq2=>?_; subst zq2)
    have test : ∀ (p1 p2 p3 p4 p5 p6 p7:Pos) (k1 k2:Nat),Ts K n ce ⟨[("row",some (.w (.str w)))],[]⟩ (.Compare (.BinOp (.Call (.Name ("len" : Str) p1) [.Name ("row" : Str) p2] [] p3) .Mod (.Constant (.int 2) k1 p4) p5) [.Eq] [.Constant (.int 0) k2 p6] p7) ((ma,.list ML)::σ) (w.length%2==0) ((ma,.list ML)::σ):=by
     intro p1 p2 p3 p4 p5 p6 p7 k1 k2
     refine Ts.conv (Ts.cmp (Ev.modN (N:=w.length) (m:=2) (by exact Nat.succ_pos _) (Ev.callB (zd7 hce (by simp) (by kernel_rfl)) n1 n2 (Callee.builtin _) (Evs.cons (Ev.name (by walk_at "mem") (by kernel_rfl)) Evs.nil (by rfl)) Fn.lenS (by kernel_rfl) (by rfl))) Ev.cint Opn.eqI (by rfl)) ?_
     by_cases h:w.length%2=0
     ·rw [h]; rfl
     ·rw [decide_eq_false (by lia)]; simp [h]
    cases hb:(w.length%2==0) with
    | true=>exact .inr ⟨.str w,by simp only [evF,hb,if_true],TsC.one (Ts.conv (test _ _ _ _ _ _ _ _ _) hb),Ev.name (by walk_at "mem") (by kernel_rfl)⟩
    | false=>exact .inl ⟨by simp only [evF,hb]; rfl,TsC.one (Ts.conv (test _ _ _ _ _ _ _ _ _) hb)⟩
  with_reducible apply Ex.one
  generalize evN (k+1) (hs.map (· % 8))=EV at *
  have lfw:=hfl (gray (k+1))
  generalize fw low (gray (k+1))=FW at *
  refine Ex1.expr (v:=.w .none) ?_ (by rfl)
  refine Ev.methL (lv:=.ref ma) (σ₁:=(ma,.list ML)::σ) (σ₂:=(ma,.list ML)::σ) (vs:=[.w (.list [.int (FW.length:Nat),.int ((5 - 2*((EV:Nat):Int)) ^ (2:Int).toNat)])]) (Ev.name (by walk_at "mem") (by kernel_rfl)) (.inr ⟨ma,ML,rfl,by walk_at "mem"⟩) PySem.F.slot_list_append PySem.F.type_list_append (Evs.cons ?_ Evs.nil (by rfl)) (Fn.append (xs:=ML) SetO.head (by rw [lM,sizeLine_eq]; exact Nat.lt_of_le_of_lt ‹_› (by decide))) (by rfl) (by decide) (by rfl) (by rfl)
  refine Ev.list (EvW.cons (σ₁:=(ma,.list ML)::σ) ?_ (EvW.cons (σ₁:=(ma,.list ML)::σ) ?_ EvW.nil (by rfl)) (by rfl)) (by rw [sizeLine_eq]; simp)
  ·refine Ev.conv (v:=.w (.int (((FW.map W.str).length:Nat):Int))) (Ev.callB (za0 he (by kernel_rfl)) n1 n2 (Callee.builtin _) (Evs.cons (Ev.name (by walk_at "mem") (by kernel_rfl)) Evs.nil (by rfl)) Fn.lenL (by kernel_rfl) (by rfl)) (by rw [List.length_map])
  ·have ib:=intBits_le_64 (k:=5 - 2*((EV:Nat):Int)) (by lia) (by lia)
   exact Ev.bin (Ev.bin Ev.cint (Ev.bin Ev.cint (Ev.name (by walk_at "mem") (by kernel_rfl)) (Opn.mulI (IntMulOk.of_left (by decide)))) Opn.subI) Ev.cint (Opn.powI (by decide) (by lia))
end
noncomputable def zI4 (h:Nat):List Nat:=List.replicate (1+cnt (h%8) 7) 46
theorem zK6 (k m:Nat):RowTok (zc8 k m) (List.replicate (1+cnt m (k+1)) 46):=by
 have hp : ∀ n,RowTok (List.replicate (1+n) 46) (List.replicate (1+n) 46):=fun n=>by
  refine RowTok.plain (fun e=>?_) fun c hc=>?_
  ·have:=congrArg List.length e
   simp at this
  ·have:=(List.mem_replicate.mp hc).2
   subst this
   exact ⟨by decide,by decide,by decide⟩
 have e:cnt m (k+1)=cnt m k+if m.testBit (flip (k+1)) then 1 else 0:=rfl
 unfold zc8
 rw [e]
 split
 ·have:=hp (cnt m k+1)
  rw [← Nat.add_assoc] at this ⊢
  exact this
 ·have:=(hp (cnt m k)).ws (p:=[32]) (fac (.inr (.inr (.inl rfl))) fan)
  exact this
theorem zn2 (st:Nat) (hs:List Nat) (h5:hs.length=5):(∀ k h,hs[k]? = some h→zk7 (zd0 hs st 6) k=zI4 h)∧zk7 (zd0 hs st 6) 5=[]∧(za7 (zd0 hs st 6) 6).2=6∧(zd0 hs st 6).length≤400∧(∀ c∈zd0 hs st 6,c<128):=by
 have e:=zO5 hs st 6 h5 (by exact Nat.le_add_left _ _)
 have key : ∀ l:List Nat,c10 ((l.map fun h=>zc8 6 (h%8)++[13,10]).flatten)=l.length∧((l.map fun h=>zc8 6 (h%8)++[13,10]).flatten).length≤12*l.length∧∀ c∈(l.map fun h=>zc8 6 (h%8)++[13,10]).flatten,c<128:=by
  intro l
  induction l with
  | nil=>exact ⟨rfl,by simp,fun c h=>by simp at h⟩
  | cons h l ih =>
   (have i1:=ih.1; have i2:=ih.2.1; have i3:=ih.2.2)
   (have zq:=zf3 6 (h%8) (by lia); have n1:=zq.1; have n2:=zq.2.1; have n3:=zq.2.2)
   have n4:(zc8 6 (h%8)).count 10=0:=by
    refine List.count_eq_zero.mpr fun hm=>?_
    unfold zc8 at hm
    split at hm
    ·have:=(List.mem_replicate.mp hm).2; contradiction
    ·rcases List.mem_cons.mp hm with hm | hm
     ·contradiction
     ·have:=(List.mem_replicate.mp hm).2; lia
   simp only [List.map_cons,List.flatten_cons]
   refine ⟨?_,?_,fun c hc=>?_⟩
   ·unfold c10 at *
    rw [List.count_append,List.count_append,n4,List.length_cons]
    have:List.count 10 [13,10]=1:=by decide
    rw [this]; lia
   ·simp only [List.length_append,List.length_cons,List.length_nil]; lia
   ·rcases List.mem_append.mp hc with hc | hc
    ·rcases List.mem_append.mp hc with hc | hc
     ·exact n3 c hc
     ·simp at hc; lia
    ·exact i3 c hc
 have e':zd0 hs st 6=(hs.map fun h=>zc8 6 (h%8)++[13,10]).flatten:=by rw [e]; unfold zs5; rw [List.map_map]; rfl
 (have zq:=key hs; have k1:=zq.1; have k2:=zq.2.1; have k3:=zq.2.2)
 have es:remK (zd0 hs st 6) 0=[]++(((hs.map fun h=>(zc8 6 (h%8),zI4 h)).map fun p=>p.1++[13,10]).flatten++[]):=by
  show zd0 hs st 6=_
  rw [e',List.map_map,List.append_nil,List.nil_append]; rfl
 obtain ⟨g1,pre,g2,g3⟩:=zo0 [] (zd0 hs st 6) _ [] 0 (fun p hp=>by
  (refine obEA (List.mem_map.mp hp) fun h _ zq2=>?_; subst zq2)
  exact zK6 6 (h%8)) ws0 es
 rw [List.length_map,h5,Nat.zero_add,List.append_nil] at g3
 have hw:zm9 pre:=by
  rcases g2 with ⟨rfl,_⟩ | rfl | rfl
  ·exact ws0
  ·exact ws1
  ·exact ws2
 have t5:tokO (remK (zd0 hs st 6) 5)=([],pre.length+1):=by
  rw [g3]
  have:=zn9 [] pre hw
  rw [List.append_nil] at this
  rw [this]; rfl
 refine ⟨fun k h hk=>?_,by rw [zo8,t5],?_,by rw [e']; lia,by rw [e']; exact k3⟩
 ·rw [zo8]
  have:=g1 k (zc8 6 (h%8),zI4 h) (by simp [hk])
  rw [Nat.zero_add] at this; exact this
 ·have hl:=zw2 (zd0 hs st 6) 6
  have r6:remK (zd0 hs st 6) 6=[]:=by
   show (remK (zd0 hs st 6) 5).drop _=[]
   rw [t5,g3]; exact List.drop_eq_nil_of_le (by simp)
  rw [r6] at hl
  have h0:c10 []=0:=rfl
  have h1:c10 (zd0 hs st 6)=5:=by rw [e',k1,h5]; rfl
  rw [h0,h1] at hl
  lia
noncomputable def sumN (h:Nat):List Int:=(zf8 h).map fun i=>((4/2 ^ i:Nat):Int)
theorem zG2 (h:Nat):(sumN h).sum=((cnt (h%8) 7:Nat):Int):=by
 have e:zf8 h=zf8 (h%8):=by
  unfold zf8
  refine List.filter_congr fun i hi=>?_
  have hi:=List.mem_range.mp hi
  rw [show (8:Nat)=2 ^ 3 from rfl,Nat.testBit_mod_two_pow]
  simp [hi]
 have : ∀ m:Fin 8,(sumN m.val).sum=((cnt m.val 7:Nat):Int):=by decide +kernel
 have e2:sumN h=sumN (h%8):=by unfold sumN; rw [e]
 rw [e2]
 exact this ⟨h%8,Nat.mod_lt _ (by exact Nat.succ_pos _)⟩
noncomputable def sumF (h:Nat):W→Option W
 | .int i=>if h.testBit i.toNat then some (.int ((4/2 ^ i.toNat:Nat):Int)) else none
 | _=>none
theorem zN2 (h:Nat):(za3 0 1 3).filterMap (sumF h)=(sumN h).map W.int:=by
 rw [yl2 (fun i=>h.testBit i) (fun i=>.int ((4/2 ^ i:Nat):Int)) (sumF h) (fun i=>rfl)]
 unfold sumN zf8
 rw [List.map_map]; rfl
theorem yl6 (k:Nat) (h:k<12):repS (L ".") ((k:Nat):Int)=List.replicate k 46:=by
 have : ∀ k:Fin 12,repS (L ".") ((k.val:Nat):Int)=List.replicate k.val 46:=by decide +kernel
 exact this ⟨k,h⟩
noncomputable def sqN (ms:List Nat) (s:Nat):Int:=(5 - 2*((evN s ms:Nat):Int))*(5 - 2*((evN s ms:Nat):Int))
theorem zQ9 (low:Nat) (ms:List Nat):metL low ms 8=(List.range 8).map fun s=>W.list [.int (((zf8 (gray s)).length:Nat):Int),.int (sqN ms s)]:=by
 unfold metL
 refine List.map_congr_left fun s hs=>?_
 cases s with
 | zero =>
  have h0:evN 0 ms=0:=by
   unfold evN
   rw [List.length_eq_zero_iff,List.filter_eq_nil_iff]
   intro m _
   simp [cnt]
  show W.list [.int 0,.int 25]=_
  unfold sqN
  rw [h0]; rfl
 | succ s =>
  show W.list [.int ((fw low (gray (s+1))).length:Nat),.int _]=_
  rw [yk9]
  unfold sqN
  congr 3
  show W.int (_ ^ 2)=_
  rw [Int.pow_succ,Int.pow_succ,Int.pow_zero,Int.one_mul]
noncomputable def sqF (p:Nat):W→Option W
 | .list [.int a,.int b]=>if decide (a=(p:Int))=true then some (.int b) else none
 | _=>none
theorem zG4 (ms:List Nat) (p:Nat) : ∀ l:List Nat,(l.map fun s=>W.list [.int (((zf8 (gray s)).length:Nat):Int),.int (sqN ms s)]).filterMap (sqF p)=((l.filter fun s=>decide ((zf8 (gray s)).length=p)).map (sqN ms)).map W.int
 | []=>rfl
 | s::l=>by
  have ih:=zG4 ms p l
  have e:decide ((((zf8 (gray s)).length:Nat):Int)=(p:Int))=decide ((zf8 (gray s)).length=p):=by
   by_cases h:(zf8 (gray s)).length=p
   ·rw [decide_eq_true h,decide_eq_true (by lia)]
   ·rw [decide_eq_false h,decide_eq_false (by lia)]
  simp only [List.map_cons,List.filterMap_cons,sqF,e,ih,List.filter_cons]
  cases decide ((zf8 (gray s)).length=p) <;> rfl
theorem zW6 : ∀ p:Fin 4,((List.range 8).filter fun s=>decide ((zf8 (gray s)).length=p.val))=zc3 p.val:=by decide +kernel
theorem yj1 (low:Nat) (ms:List Nat) (p:Nat) (hp:p<4):(metL low ms 8).filterMap (sqF p)=((zc3 p).map (sqN ms)).map W.int:=by
 rw [zQ9,zG4]
 have:=zW6 ⟨p,hp⟩
 simp only at this
 rw [this]
noncomputable def cF (hs:List Nat) (d:Int):Int:=(((farF hs 5).count d:Nat):Int)
noncomputable def zr5 (hs:List Nat):List Int:=[5+2*cF hs 0,2*cF hs 1,2*cF hs 2,2*cF hs 3]
noncomputable def zv5 (hs:List Nat) (p:Nat):List Int:=(List.range 4).map fun d=>(zr5 hs).getD d 0*(sgR d 3).getD p 0
theorem sg_K : ∀ d:Fin 4,∀ p:Fin 4,(sgR d.val 3).getD p.val 0=Kt p.val d.val∧(sgR d.val 3).length=4:=by decide +kernel
theorem sides (hs:List Nat) (h5:hs.length=5) (p:Nat) (hp:p<4):((zc3 p).map (sqN (hs.map (· % 8)))).sum=(zv5 hs p).sum:=by
 have h:=yc6 p hp (hs.map (· % 8)) (by simp [h5]) (fun m hm=>by (refine obEA (List.mem_map.mp hm) fun x _ zq2=>?_; subst zq2); exact Nat.mod_lt _ (by lia))
 have e1:((zc3 p).map (sqN (hs.map (· % 8)))).sum=sumG (zc3 p) (fun s=>(5 - 2*((evN s (hs.map (· % 8)):Nat):Int))*(5 - 2*((evN s (hs.map (· % 8)):Nat):Int))):=rfl
 rw [e1,h, ← yf8 hs h5]
 have k0:=(sg_K ⟨0,by exact Nat.succ_pos _⟩ ⟨p,hp⟩).1
 have k1:=(sg_K ⟨1,by exact Nat.le_add_left _ _⟩ ⟨p,hp⟩).1
 have k2:=(sg_K ⟨2,by exact Nat.le_add_left _ _⟩ ⟨p,hp⟩).1
 have k3:=(sg_K ⟨3,by exact Nat.lt_succ_self _⟩ ⟨p,hp⟩).1
 simp only at k0 k1 k2 k3
 have r4:List.range 4=[0,1,2,3]:=rfl
 unfold zv5 zr5 cF
 rw [r4]
 simp only [List.map_cons,List.map_nil,List.sum_cons,List.sum_nil,List.getD_cons_zero,List.getD_cons_succ,k0,k1,k2,k3]
 lia
noncomputable def zn7 (hs:List Nat):List (List Nat):=hs.map zI4
theorem zZ9 (st:Nat) (hs:List Nat) (h5:hs.length=5):(List.range 6).map (zk7 (zd0 hs st 6))=zn7 hs++[[]]:=by
 (have zq:=zn2 st hs h5; have t1:=zq.1; have t2:=zq.2.1)
 have hl:(zn7 hs).length=5:=by simp [zn7,h5]
 apply List.ext_getElem
 ·simp [hl]
 ·intro i h1 h2
  have hi:i<6:=by simpa using h1
  rw [List.getElem_map,List.getElem_range]
  by_cases h:i<5
  ·rw [List.getElem_append_left (by lia)]
   have hh:i<hs.length:=by lia
   rw [t1 i hs[i] (List.getElem?_eq_getElem hh)]
   simp [zn7]
  ·have:i=5:=by lia
   subst this
   rw [List.getElem_append_right (by lia),t2]
   simp [hl]
noncomputable def sgW (c:Nat):W:=.list ((sgR c 3).map W.int)
section
variable {K:Kc} {n:Nat} {σ σ':List (Addr × O)} {env:Env} {mN:Str→Option Value} {T:List (Str × Option V)}
theorem law_d (he:env.scope=za4 ze0) (hd:K.hd=none) (r1:K.mg ("range" : Str)=none) (r2:K.mb ("range" : Str)=some (.type "range")) (u1:K.mg ("sum" : Str)=none) (u2:K.mb ("sum" : Str)=some (.builtin "sum")) (C:LexC K mN n)
  {P:Addr} {q:Str} (hP:(P,O.codes (zc1 q))∈σ) (cLex : ∀ (σ:List (Addr × O)) (full:List Nat),(P,O.codes (zc1 q))∈σ→zC3 K n "_law_lexer" [.w (.str full)] σ (.lex full 0 1 []) σ)
  (hs:List Nat) (h5' st:Nat) (h5:hs.length=5) (fr mt:Option V) {rest:List Stmt} {o:Out} {ρ':Lo}
  (h:Ex K n env ⟨("heaps",none)::("due",none)::("far",fr)::("met",mt)::("sent",none)::("reader",none)::T,[]⟩ σ rest o ρ' σ') :
  Ex K n env ⟨("heaps",some (.w (HW hs h5')))::("due",none)::("far",fr)::("met",mt)::("sent",some (.w (.str (zd0 hs st 6))))::("reader",none)::T,[]⟩ σ (lawS 25::lawS 26::lawS 27::rest) o ρ' σ':=by
 (have zq:=zn2 st hs h5; have t6:=zq.2.2.1; have hl:=zq.2.2.2.1; have hc:=zq.2.2.2.2)
 have het:=zZ9 st hs h5
 generalize zd0 hs st 6=M at *
 have hlen:(zd1 hs).length=5:=by simp [zd1,h5]
 conv=>arg 6; arg 1; whnf
 refine Ex.assignN (o:=.lex M 0 1 []) (σ₁:=σ) ?_ (fun lx=>⟨("heaps",some (.w (HW hs h5')))::("due",none)::("far",fr)::("met",mt)::("sent",some (.w (.str M)))::("reader",some (.ref lx))::T,[]⟩) (fun lx=>by walk_at "setv") (fun lx=>?_) (by rfl)
 ·exact EvN.callG (za0 he (by kernel_rfl)) (Evs.cons (Ev.name (by walk_at "mem") (by kernel_rfl)) Evs.nil (by rfl)) (cLex σ _ hP) (by kernel_rfl) (by rfl)
 refine Ex.cons (ρ₁:=⟨("heaps",some (.w (HW hs h5')))::("due",some (.w (.list ((zn7 hs).map W.str))))::("far",fr)::("met",mt)::("sent",some (.w (.str M)))::("reader",some (.ref lx))::T,[]⟩) (σ₁:=(lx,.lex M 0 1 [])::σ) ?_ ?_
 ·conv=>arg 6; whnf
  refine Ex1.assign (Ev.compSteps (items:=zd1 hs) ((zn7 hs).map W.str) (fun _=>(lx,.lex M 0 1 [])::σ) (by simp [zd1,zn7]) (cs:=[]) (ItN.list (Ev.hcut h5 (Ev.name (by walk_at "mem") (by kernel_rfl)))) ?_ (by rw [sizeLine_eq,hlen]; lia) ?_ (by intro _; rfl)) (by walk_at "setv") (zh3 he (by kernel_rfl))
  ·exact Caps.ofB ["heap"] (by kernel_rfl) .nil
  ·intro ce hce k y z hy hz
   obtain ⟨hk,rfl⟩:=zk9 hy
   unfold zn7 at hz
   rw [List.map_map,List.getElem?_map,List.getElem?_eq_getElem hk] at hz
   cases hz
   show Ev K n ce _ _ _ (.w (.str (List.replicate (1+cnt (hs[k]%8) 7) 46))) _
   have hcl:=zu4 (hs[k]%8) 7
   have e2:(1:Int)+((cnt (hs[k]%8) 7:Nat):Int)=((1+cnt (hs[k]%8) 7:Nat):Int):=by lia
   have hL:(L ".").length=1:=by kernel_rfl
   rw [← yl6 (1+cnt (hs[k]%8) 7) (by lia), ← e2, ← zG2]
   have hsum:=zG2 hs[k]
   generalize hs[k]=hk0 at *
   refine Ev.bin (σ₁:=(lx,.lex M 0 1 [])::σ) Ev.str (Ev.bin (σ₁:=(lx,.lex M 0 1 [])::σ) Ev.cint (Ev.callB (zd7 hce (by simp) (by kernel_rfl)) u1 u2 (Callee.builtin _) (Evs.cons (v:=.w (.list ((sumN hk0).map W.int))) (σ₁:=(lx,.lex M 0 1 [])::σ) ?_ Evs.nil (by rfl)) (Fn.sum hd) (by kernel_rfl) (by rfl)) Opn.addI) (Opn.mulS (by rw [hsum]; lia) (by rw [hsum]; lia) (by rw [hsum]; show (L ".").length*_≤_; rw [hL]; lia))
   rw [← zN2]
   refine Ev.compMap (f:=sumF hk0) (items:=za3 0 1 3) (cs:=[("heap",.w (.int (hk0:Nat)))]) ?_ ?_ (by rw [sizeLine_eq,za1]; lia) ?_ (by intro _; rfl)
   ·apply ItN.range1N (N:=3)
    ·exact zd7 hce (by simp) (by kernel_rfl)
    ·exact r1
    ·exact r2
    ·exact Ev.conv Ev.cint (by rfl)
    ·lia
    all_goals walk_at "auto"
   ·exact Caps.ofB ["place"] (by kernel_rfl) (.cell (zd7 hce (by simp) (by kernel_rfl)) (by walk_at "mem") .nil)
   ·intro c2 hc2 y hy
    obtain ⟨i,hi0⟩:=List.getElem?_of_mem hy
    (have zq:=zb1 hi0; have hi:=zq.1; have zq1:=zq.2; subst zq1)
    cases hb:hk0.testBit i with
    | true =>
     refine .inr ⟨.int ((4/2 ^ i:Nat):Int),by simp only [sumF,Int.toNat_natCast,hb,if_true],TsC.one (Ts.conv (Ts.bit (N:=hk0) (p:=i) (by lia) (Ev.cap (by walk_at "mem") (by kernel_rfl) (by kernel_rfl)) (Ev.name (by walk_at "mem") (by kernel_rfl))) hb),?_⟩
     exact Ev.divPow (N:=4) (a:=i) (by lia) (Ev.conv Ev.cint (by rfl)) (Ev.name (by walk_at "mem") (by kernel_rfl))
    | false=>exact .inl ⟨by simp only [sumF,Int.toNat_natCast,hb]; rfl,TsC.one (Ts.conv (Ts.bit (N:=hk0) (p:=i) (by lia) (Ev.cap (by walk_at "mem") (by kernel_rfl) (by kernel_rfl)) (Ev.name (by walk_at "mem") (by kernel_rfl))) hb)⟩
 refine Ex.cons (ρ₁:=⟨("heaps",some (.w (HW hs h5')))::("due",some (.w (.list ((zn7 hs).map W.str))))::("far",fr)::("met",mt)::("sent",some (.w (.str M)))::("reader",some (.ref lx))::T,[]⟩) (σ₁:=(lx,.lex M (za7 M 6).1 (za7 M 6).2 [])::σ) ?_ ?_
 ·conv=>arg 6; whnf
  refine Ex1.skip (t:=false) ?_ rfl
  have e6:(za3 0 1 6).length=6:=za1 _ _ _
  apply Ts.boolop
  refine TsL.or (b:=!true) (σ₁:=(lx,.lex M (za7 M 6).1 (za7 M 6).2 [])::σ) ?_ (fun _=>?_) (fun h=>by cases h)
  ·refine Ts.cmp (x:=.list (((List.range 6).map (zk7 M)).map W.str)) (y:=.list ((zn7 hs).map W.str++[.str []])) (σ₁:=(lx,.lex M (za7 M 6).1 (za7 M 6).2 [])::σ) ?_ ?_ (Opn.neL (by rw [het,List.map_append]; exact (List.map_append (f:=W.str) (l₁:=zn7 hs) (l₂:=[[]])).symm ▸ zu6 _)) (by walk_at "auto")
   ·refine Ev.compSteps (items:=za3 0 1 6) (((List.range 6).map (zk7 M)).map W.str) (fun k=>(lx,.lex M (za7 M k).1 (za7 M k).2 [])::σ) (by rw [e6]; simp) (cs:=[("reader",.ref lx)]) ?_ ?_ (by rw [sizeLine_eq,e6]; lia) ?_ (by intro _; rfl)
    ·show ItN K n env _ _ ((lx,O.lex M 0 1 [])::σ) _ ((lx,O.lex M 0 1 [])::σ) _
     apply ItN.range1N (N:=6)
     ·exact za0 he (by kernel_rfl)
     ·exact r1
     ·exact r2
     ·exact Ev.conv Ev.cint (by rfl)
     ·lia
     all_goals walk_at "auto"
    ·exact Caps.ofB ["place"] (by kernel_rfl) (.cell (za0 he (by kernel_rfl)) (by walk_at "mem") .nil)
    ·intro ce hce k y z hy hz
     (have zq:=zb1 hy; have hk:=zq.1; have zq1:=zq.2; subst zq1)
     have ez:z = .str (zk7 M k):=by
      rw [List.map_map,List.getElem?_map,List.getElem?_range hk] at hz
      exact (Option.some.inj hz).symm
     subst ez
     exact Ev.getTok C hl hc (by lia) (Ev.cap (by walk_at "mem") (by kernel_rfl) (by kernel_rfl)) (by rfl) (by rfl)
   ·exact Ev.bin (Ev.name (by walk_at "mem") (by kernel_rfl)) (Ev.list (EvW.cons (Ev.cstr (l:=[]) (by kernel_rfl) (by simp)) EvW.nil (by rfl)) (by rw [sizeLine_eq]; simp)) (Opn.addL (by rw [sizeLine_eq]; simp [zn7,h5]))
  ·refine TsL.or (b:=!true) (σ₁:=(lx,.lex M (za7 M 6).1 (za7 M 6).2 [])::σ) ?_ (fun _=>TsL.or_nil) (fun h=>by cases h)
   exact Ts.cmp (x:=.int 6) (y:=.int 6) (Ev.conv (v:=.w (.int (za7 M 6).2)) (Ev.lexLine C.LK (Ev.name (by walk_at "mem") (by kernel_rfl)) (full:=M) (place:=(za7 M 6).1) (push:=[]) (by walk_at "mem")) (by rw [t6])) Ev.cint (by have:=Opn.neI (K:=K) (n:=n) (a:=6) (b:=6); simpa using this) (by walk_at "auto")
 exact Ex.pre h (by walk_at "less") (List.sublist_cons_self _ _)
theorem law_e (he:env.scope=za4 ze0) (hd:K.hd=none) (r1:K.mg ("range" : Str)=none) (r2:K.mb ("range" : Str)=some (.type "range")) (u1:K.mg ("sum" : Str)=none) (u2:K.mb ("sum" : Str)=some (.builtin "sum"))
  (cSig : ∀ (σ:List (Addr × O)) (c:Nat),c<4→Calls K n "_law_signs" [.w (.int c)] σ (.w (sgW c)) σ) (hs:List Nat) (low:Nat) (h5:hs.length=5) :
  Ex K n env ⟨[("far",some (.w (.list ((farF hs 5).map W.int)))),("met",some (.w (.list (metL low (hs.map (· % 8)) 8)))),("signs",none),("counts",none),("squares",none)],[]⟩ σ [lawS 28,lawS 29,lawS 30,lawS 31] (.ret (.w (.bool true))) ⟨[],[]⟩ σ:=by
 let sgs:List W:=(List.range 4).map sgW
 let cts:List W:=(zr5 hs).map W.int
 let ms:=hs.map (· % 8)
 let sqs:List W:=(List.range 4).map fun p=>W.int ((zc3 p).map (sqN ms)).sum
 refine Ex.less (ρ₁:=⟨[("far",some (.w (.list ((farF hs 5).map W.int)))),("met",some (.w (.list (metL low ms 8)))),("signs",some (.w (.list sgs))),("counts",some (.w (.list cts))),("squares",some (.w (.list sqs)))],[]⟩) (σ₁:=σ) ?_ (by walk_at "less") (List.Sublist.refl _)
 refine Ex.cons (ρ₁:=⟨[("far",some (.w (.list ((farF hs 5).map W.int)))),("met",some (.w (.list (metL low ms 8)))),("signs",some (.w (.list sgs))),("counts",none),("squares",none)],[]⟩) (σ₁:=σ) ?_ ?_
 ·conv=>arg 6; whnf
  refine Ex1.assign (Ev.compSteps (items:=za3 0 1 4) sgs (fun _=>σ) (by rw [za1]; rfl) (cs:=[]) ?_ ?_ (by rw [sizeLine_eq,za1]; exact Nat.le_add_left _ _) ?_ (by intro _; rfl)) (by walk_at "setv") (zh3 he (by kernel_rfl))
  ·apply ItN.range1N (N:=4)
   ·exact za0 he (by kernel_rfl)
   ·exact r1
   ·exact r2
   ·exact Ev.conv Ev.cint (by rfl)
   ·exact Nat.le_add_left _ _
   all_goals walk_at "auto"
  ·exact Caps.ofB ["lies"] (by kernel_rfl) .nil
  ·intro ce hce k y z hy hz
   (have zq:=zb1 hy; have hk:=zq.1; have zq1:=zq.2; subst zq1)
   have ez:z=sgW k:=by
    rw [List.getElem?_map,List.getElem?_range hk] at hz
    exact (Option.some.inj hz).symm
   subst ez
   exact Ev.callG (zd7 hce (by simp) (by kernel_rfl)) (Evs.cons (Ev.name (by walk_at "mem") (by kernel_rfl)) Evs.nil (by rfl)) (cSig σ k hk) (by kernel_rfl) (by rfl)
 have cnt1 : ∀ {ce:Env} {ρ:Lo} {e:Expr} {d:Int} {p1 p2 p3:Pos},Ev K n ce ρ (.Name ("far" : Str) p1) σ (.w (.list ((farF hs 5).map W.int))) σ→Ev K n ce ρ e σ (.w (.int d)) σ→(starEach [e] ce=(false,eval e ce)::starEach [] ce)→((starEach [e] ce).any (·.1)=false)→(p2.endLine==p3.line)=true→attributeBase (.Name ("far" : Str) p1) ("count" : Str) ce (eval (.Name ("far" : Str) p1) ce)=eval (.Name ("far" : Str) p1) ce →
   Ev K n ce ρ (.Call (.Attribute (.Name ("far" : Str) p1) ("count" : Str) p2) [e] [] p3) σ (.w (.int (cF hs d))) σ:=fun h1 h2 h3 h4 h5 h6 =>
  Ev.methL h1 (.inl ⟨_,rfl⟩) PySem.F.slot_list_count PySem.F.type_list_count (Evs.cons h2 Evs.nil h3) Fn.count h6 (by simp) h5 h4
 refine Ex.cons (ρ₁:=⟨[("far",some (.w (.list ((farF hs 5).map W.int)))),("met",some (.w (.list (metL low ms 8)))),("signs",some (.w (.list sgs))),("counts",some (.w (.list cts))),("squares",none)],[]⟩) (σ₁:=σ) ?_ ?_
 ·conv=>arg 6; whnf
  refine Ex1.assign (v:=.w (.list cts)) (Ev.conv (v:=.w (.list ([.int (5+2*cF hs 0)]++[.int (2*cF hs 1),.int (2*cF hs 2),.int (2*cF hs 3)]))) ?_ rfl) (by walk_at "setv") (by rfl)
  have mul : ∀ d,IntMulOk 2 (cF hs d):=fun d=>IntMulOk.of_left (by decide)
  refine Ev.bin (σ₁:=σ) (Ev.list (EvW.cons (Ev.bin (σ₁:=σ) Ev.cint (Ev.bin (σ₁:=σ) Ev.cint (cnt1 (Ev.name (by walk_at "mem") (by kernel_rfl)) Ev.cint (by rfl) (by rfl) (by rfl) (by rfl)) (Opn.mulI (mul _))) Opn.addI) EvW.nil (by rfl)) (by rw [sizeLine_eq]; simp)) ?_ (Opn.addL (by rw [sizeLine_eq]; simp))
  refine Ev.compSteps (items:=[.int 1,.int 2,.int 3]) [.int (2*cF hs 1),.int (2*cF hs 2),.int (2*cF hs 3)] (fun _=>σ) rfl (cs:=[("far",.w (.list ((farF hs 5).map W.int)))]) (ItN.list (Ev.list ?_ (by rw [sizeLine_eq]; simp))) ?_ (by rw [sizeLine_eq]; simp) ?_ (by intro _; rfl)
  ·walk_at "go"
  ·exact Caps.ofB ["lies"] (by kernel_rfl) (.cell (za0 he (by kernel_rfl)) (by walk_at "mem") .nil)
  ·intro ce hce k y z hy hz
   have key : ∃ d:Int,y = .int d∧z = .int (2*cF hs d):=by
    match k,hy,hz with
    | 0,hy,hz=>cases hy; cases hz; exact ⟨1,rfl,rfl⟩
    | 1,hy,hz=>cases hy; cases hz; exact ⟨2,rfl,rfl⟩
    | 2,hy,hz=>cases hy; cases hz; exact ⟨3,rfl,rfl⟩
    | k+3,hy,hz=>cases hy
   refine obEA key fun d ey ez=>?_
   subst ey; subst ez
   exact Ev.bin (σ₁:=σ) Ev.cint (cnt1 (Ev.cap (by walk_at "mem") (by kernel_rfl) (by kernel_rfl)) (Ev.name (by walk_at "mem") (by kernel_rfl)) (by rfl) (by rfl) (by rfl) (by rfl)) (Opn.mulI (mul _))
 refine Ex.cons (ρ₁:=⟨[("far",some (.w (.list ((farF hs 5).map W.int)))),("met",some (.w (.list (metL low ms 8)))),("signs",some (.w (.list sgs))),("counts",some (.w (.list cts))),("squares",some (.w (.list sqs)))],[]⟩) (σ₁:=σ) ?_ ?_
 ·conv=>arg 6; whnf
  refine Ex1.assignSteps sqs (fun _=>σ) (by rw [za1]; rfl) (items:=za3 0 1 4) (cs:=[("met",.w (.list (metL low ms 8)))]) ?_ ?_ (by rw [sizeLine_eq,za1]; lia) ?_ (by walk_at "setv") (zf0 he (by kernel_rfl)) (by intro _; rfl)
  ·apply ItN.range1N (N:=4)
   ·exact za0 he (by kernel_rfl)
   ·exact r1
   ·exact r2
   ·exact Ev.conv Ev.cint (by rfl)
   ·lia
   all_goals walk_at "auto"
  ·exact Caps.ofB ["power"] (by kernel_rfl) (.cell (za0 he (by kernel_rfl)) (by walk_at "mem") .nil)
  ·intro ce hce k y z hy hz
   (have zq:=zb1 hy; have hk:=zq.1; have zq1:=zq.2; subst zq1)
   have ez:z = .int ((zc3 k).map (sqN ms)).sum:=by
    rw [List.getElem?_map,List.getElem?_range hk] at hz
    exact (Option.some.inj hz).symm
   subst ez
   refine Ev.callB (zd7 hce (by simp) (by kernel_rfl)) u1 u2 (Callee.builtin _) (Evs.cons (v:=.w (.list (((zc3 k).map (sqN ms)).map W.int))) (σ₁:=σ) ?_ Evs.nil (by rfl)) (Fn.sum hd) (by kernel_rfl) (by rfl)
   rw [← yj1 low ms k hk]
   have hpairs : ∀ z∈metL low ms 8,∃ a b:Int,z = .list [.int a,.int b]:=fun z hz=>by
    rw [zQ9] at hz
    (refine obEA (List.mem_map.mp hz) fun s _ zq2=>?_; subst zq2)
    exact ⟨_,_,rfl⟩
   refine Ev.compPair (items:=metL low ms 8) (cs:=[("power",.w (.int k))]) pa1 pa2 (sqF k) hd (ItN.listT (Ev.cap (by walk_at "mem") (by kernel_rfl) (by kernel_rfl)) (fun z hz=>by refine obEE (hpairs z hz) fun a b e=>?_; exact .inl ⟨_,e⟩)) ?_ (by rw [sizeLine_eq]; simp [metL]) (fun z hz=>by refine obEE (hpairs z hz) fun a b e=>?_; rw [e]; exact .inr rfl) ?_ (by intro _; rfl)
   ·exact Caps.ofB ["many","square"] (by kernel_rfl) (.cell (zd7 hce (by simp) (by kernel_rfl)) (by walk_at "mem") .nil)
   ·intro c2 hc2 z hz
    (refine obEE (hpairs z hz) fun a b zq2=>?_; subst zq2)
    simp only [pa1,pa2]
    have test : ∀ (p1 p2 p3:Pos),Ts K n c2 ⟨[("many",some (.w (.int a))),("square",some (.w (.int b)))],[("power",.w (.int k))]⟩ (.Compare (.Name ("many" : Str) p1) [.Eq] [.Name ("power" : Str) p2] p3) σ (decide (a=(k:Int))) σ:=fun p1 p2 p3 =>
     Ts.cmp (Ev.name (by walk_at "mem") (by kernel_rfl)) (Ev.cap (by walk_at "mem") (by kernel_rfl) (by kernel_rfl)) Opn.eqI (by rfl)
    cases hb:decide (a=(k:Int)) with
    | true=>exact .inr ⟨.int b,by simp only [sqF,hb,if_true],TsC.one (Ts.conv (test _ _ _) hb),Ev.name (by walk_at "mem") (by kernel_rfl)⟩
    | false=>exact .inl ⟨by simp only [sqF,hb]; rfl,TsC.one (Ts.conv (test _ _ _) hb)⟩
 conv=>arg 6; arg 1; whnf
 with_reducible apply Ex.one
 with_reducible apply Ex1.ret
 have esq:sqs=((List.range 4).map fun p=>(zv5 hs p).sum).map W.int:=by
  rw [List.map_map]
  exact List.map_congr_left fun p hp=>by show W.int _=W.int _; rw [sides hs h5 p (List.mem_range.mp hp)]
 refine Ev.cmp (x:=.list sqs) (y:=.list (((List.range 4).map fun p=>(zv5 hs p).sum).map W.int)) (σ₁:=σ) (Ev.name (by walk_at "mem") (by kernel_rfl)) ?_ (Opn.eqL (by rw [esq]; exact zx5 _)) (by walk_at "auto")
 refine Ev.compSteps (items:=za3 0 1 4) (((List.range 4).map fun p=>(zv5 hs p).sum).map W.int) (fun _=>σ) (by rw [za1]; rfl) (cs:=[("signs",.w (.list sgs)),("counts",.w (.list cts))]) ?_ ?_ (by rw [sizeLine_eq,za1]; lia) ?_ (by intro _; rfl)
 ·apply ItN.range1N (N:=4)
  ·exact za0 he (by kernel_rfl)
  ·exact r1
  ·exact r2
  ·exact Ev.conv Ev.cint (by rfl)
  ·lia
  all_goals walk_at "auto"
 ·exact Caps.ofB ["power"] (by kernel_rfl) (.cell (za0 he (by kernel_rfl)) (by walk_at "mem") (.cell (za0 he (by kernel_rfl)) (by walk_at "mem") .nil))
 ·intro ce hce k y z hy hz
  (have zq:=zb1 hy; have hk:=zq.1; have zq1:=zq.2; subst zq1)
  have ez:z = .int (zv5 hs k).sum:=by
   rw [List.map_map,List.getElem?_map,List.getElem?_range hk] at hz
   exact (Option.some.inj hz).symm
  subst ez
  refine Ev.callB (zd7 hce (by simp) (by kernel_rfl)) u1 u2 (Callee.builtin _) (Evs.cons (v:=.w (.list ((zv5 hs k).map W.int))) (σ₁:=σ) ?_ Evs.nil (by rfl)) (Fn.sum hd) (by kernel_rfl) (by rfl)
  refine Ev.compSteps (items:=za3 0 1 4) ((zv5 hs k).map W.int) (fun _=>σ) (by rw [za1]; rfl) (cs:=[("power",.w (.int k)),("signs",.w (.list sgs)),("counts",.w (.list cts))]) ?_ ?_ (by rw [sizeLine_eq,za1]; lia) ?_ (by intro _; rfl)
  ·apply ItN.range1N (N:=4)
   ·exact zd7 hce (by simp) (by kernel_rfl)
   ·exact r1
   ·exact r2
   ·exact Ev.conv Ev.cint (by rfl)
   ·lia
   all_goals walk_at "auto"
  ·exact Caps.ofB ["lies"] (by kernel_rfl) (.cell (zd7 hce (by simp) (by kernel_rfl)) (by walk_at "mem") (.free (by walk_at "mem") (.free (by walk_at "mem") .nil)))
  ·intro c2 hc2 d y z hy hz
   (have zq:=zb1 hy; have hd4:=zq.1; have zq1:=zq.2; subst zq1)
   have ez:z = .int ((zr5 hs).getD d 0*(sgR d 3).getD k 0):=by
    unfold zv5 at hz
    rw [List.map_map,List.getElem?_map,List.getElem?_range hd4] at hz
    exact (Option.some.inj hz).symm
   subst ez
   have gc:getW cts ((d:Nat):Int)=some (.int ((zr5 hs).getD d 0)):=by
    have:d=0∨d=1∨d=2∨d=3:=by lia
    rcases this with rfl | rfl | rfl | rfl <;> rfl
   have gs:getW sgs ((d:Nat):Int)=some (.list ((sgR d 3).map W.int)):=by
    have:d=0∨d=1∨d=2∨d=3:=by lia
    rcases this with rfl | rfl | rfl | rfl <;> rfl
   have gp:getW ((sgR d 3).map W.int) ((k:Nat):Int)=some (.int ((sgR d 3).getD k 0)):=by
    have hl:=(sg_K ⟨d,hd4⟩ ⟨k,hk⟩).2
    simp only at hl
    unfold getW
    rw [if_neg (by simp),Int.toNat_natCast]
    simp [List.getD,hl,hk]
   have sm : -10≤(sgR d 3).getD k 0∧(sgR d 3).getD k 0≤10:=by
    have : ∀ d k:Fin 4, -10≤(sgR d.val 3).getD k.val 0∧(sgR d.val 3).getD k.val 0≤10:=by decide +kernel
    exact this ⟨d,hd4⟩ ⟨k,hk⟩
   exact Ev.bin (σ₁:=σ) (Ev.idxL (Ev.cap (by walk_at "mem") (by kernel_rfl) (by kernel_rfl)) (Ev.name (by walk_at "mem") (by kernel_rfl)) gc) (Ev.idxL (Ev.idxL (Ev.cap (by walk_at "mem") (by kernel_rfl) (by kernel_rfl)) (Ev.name (by walk_at "mem") (by kernel_rfl)) gs) (Ev.cap (by walk_at "mem") (by kernel_rfl) (by kernel_rfl)) gp) (Opn.mulI (IntMulOk.of_right (intBits_le_64 (by lia) (by lia))))
end
section
variable {K:Kc} {n:Nat} {σ σ' σ₁:List (Addr × O)} {env:Env} {mN:Str→Option Value} {ρ ρ' ρ₁:Lo}
theorem zT1 {A:Around} {E:Value→Shared→Prop} {Q:Flow→Shared→Prop} {s2:List Stmt} (l:List Stmt) {s:Shared} (h:wpAny (KM K) A (execs l env) (fun f s'=>match f with | .next=>wpAny (KM K) A (execs s2 env) Q E s' | _=>False) E s) :
  wpAny (KM K) A (execs (l++s2) env) Q E s:=by
 intro Γ p hΓ
 have gen : ∀ (l:List Stmt) p s,Sem.wp (KM K) Γ (execs l env) (fun a _ s'=>match a with | .next=>wpAny (KM K) A (execs s2 env) Q E s' | _=>False) (fun e _ s'=>E e s') p s →
   Sem.wp (KM K) Γ (execs (l++s2) env) (fun a _ s'=>Q a s') (fun e _ s'=>E e s') p s:=by
  intro l
  induction l with
  | nil=>intro p s hh; exact (show wpAny (KM K) A (execs s2 env) Q E s from hh) Γ p hΓ
  | cons t l ihl =>
   intro p s hh
   rw [execs_cons,Sem.wp_bind'] at hh
   show Sem.wp _ _ (execs (t::(l++s2)) env) _ _ _ _
   rw [execs_cons,Sem.wp_bind']
   refine Sem.wp_mono _ _ _ (fun f p' s' hf=>?_) (fun _ _ _ e=>e) _ _ hh
   cases f with
   | next=>exact ihl _ _ hf
   | brk=>exact (show False from hf).elim
   | cont=>exact (show False from hf).elim
   | ret v=>exact (show False from hf).elim
 exact gen l p s (h Γ p hΓ)
theorem ExF.app {s1 s2:List Stmt} {o:Out} (h1:Ex K n env ρ σ s1 .next ρ₁ σ₁) (h2:ExF K n env ρ₁ σ₁ s2 o ρ' σ'):ExF K n env ρ σ (s1++s2) o ρ' σ':=by
 refine .mk fun A E s Q g F hf he R h=>zT1 s1 ?_
 exact h1 F R fun g1 s1 f l1 R1 r1=>by
  obtain rfl:=RF.nextE r1
  exact h2.go F hf he R1 fun g2 s2 f l2 R2 r2=>h g2 s2 f (l1.trans l2) R2 r2
theorem ExF.freeze {x:Str} {a:Addr} {xs:List W} {ss:List Stmt} {o:Out} (hx:(x,some (.ref a))∈ρ.v) (hd:DelO σ a (.list xs) σ₁) (hv:SetV ρ x (.w (.list xs)) ρ₁) (h1:ExF K n env ρ₁ σ₁ ss o ρ' σ') :
  ExF K n env ρ σ ss o ρ' σ':=.mk fun _ _ _ _ _ F hf he R h=>by
 refine zc7 hd.split fun S1 S2 e1 e2=>?_
 refine zd4 (R.freeze e1) fun g' l hw R'=>?_
 subst e2
 exact h1.go F hf he { R' with fr:=R'.fr.retell hx hv fun u hu=>by obtain rfl:=RV.refE hu; exact hw } fun g2 s2 f l2 R2 r2=>h _ _ _ (l.trans l2) R2 r2
end
structure LawC (K:Kc) (mN:Str→Option Value) (n:Nat) (P:Addr) (q:Str):Prop where
 hd:K.hd=none
 iter1:K.mg ("iter" : Str)=none
 iter2:K.mb ("iter" : Str)=some (.builtin "iter")
 stop1:K.mg ("StopIteration" : Str)=none
 stop2:K.mb ("StopIteration" : Str)=some (.type "StopIteration")
 range1:K.mg ("range" : Str)=none
 range2:K.mb ("range" : Str)=some (.type "range")
 len1:K.mg ("len" : Str)=none
 len2:K.mb ("len" : Str)=some (.builtin "len")
 min1:K.mg ("min" : Str)=none
 min2:K.mb ("min" : Str)=some (.builtin "min")
 abs1:K.mg ("abs" : Str)=none
 abs2:K.mb ("abs" : Str)=some (.builtin "abs")
 sum1:K.mg ("sum" : Str)=none
 sum2:K.mb ("sum" : Str)=some (.builtin "sum")
 zip1:K.mg ("zip" : Str)=none
 zip2:K.mb ("zip" : Str)=some (.type "zip")
 heaps : ∀ (σ:List (Addr × O)) (ns:List Int),ns.length≤63→Calls K n "_law_heaps" [.w (.list (ns.map W.int))] σ (.w (.list ((ze6 [13,51,68,24,47,60] ns ns.length).map W.int))) σ
 nam : ∀ (σ:List (Addr × O)) (low:Nat),low<13→Calls K n "_law_names" [.w (.int low)] σ (.w (.list (nm3 low))) σ
 oct : ∀ (σ:List (Addr × O)) (N c M:Nat),(∀ k,k<c→63<N/64 ^ k)→N/64 ^ c≤63→c<100→Calls K n "_law_octets" [.w (.int N),.w (.int M)] σ (.w (.list ((octL N c M).map W.int))) σ
 var : ∀ (σ:List (Addr × O)) (a:Addr) (os:List Int) (rest:List W) (c:Nat) (hl:os.length=c+1) (hm : ∀ k,k<c→Builtin.bitAnd (os.getD k 0) 64≠0) (hs:Builtin.bitAnd (os.getD c 0) 64=0) (hz : ∀ k,k<c→(Builtin.Int.intBits (vAt os k):Int)+6≤2 ^ 27),
   Calls K n "_parse_varint" [.ref a] ((a,.iter (zj1 os rest 0))::σ) (.w (.int (vAt os c))) ((a,.iter rest)::σ)
 stop : ∃ fv,K.mg ("_parse_varint" : Str)=some fv∧Callee K fv∧∀ (σ:List (Addr × O)) (a:Addr) (x:Nat),x<64→FnX K n fv [.ref a] ((a,.iter [.int (64+(x:Int))])::σ) "StopIteration" σ
 pre : ∀ (σ:List (Addr × O)) (F:Nat),(hexS (left F 32)).length≤100→((zc4 F).map (·.length)).sum+(zc4 F).length*2≤16777216→Calls K n "pretty_flags" [.w (.int F)] σ (.w (.str (zz0 F))) σ
 sent : ∀ (σ:List (Addr × O)) (rows:List (List Nat)) (bare:List Int) (st:Nat),rows.length≤10→(∀ r∈rows,r.length≤40)→Calls K n "_law_sent" [.w (.list (rows.map W.str)),.w (.list (bare.map W.int)),.w (.int st)] σ (.w (.str (zh5 (zg4 bare st rows rows.length)))) σ
 sig : ∀ (σ:List (Addr × O)) (c:Nat),c<4→Calls K n "_law_signs" [.w (.int c)] σ (.w (sgW c)) σ
 lexc:LexC K mN n
 lexn : ∀ (σ:List (Addr × O)) (full:List Nat),(P,O.codes (zc1 q))∈σ→zC3 K n "_law_lexer" [.w (.str full)] σ (.lex full 0 1 []) σ
 lev : ∀ (σ:List (Addr × O)) (x y:List Nat) (mc:Int),x.length≤40→y.length≤40→(∀ c∈x,c<128)→(∀ c∈y,c<128)→Calls K n "_levenshtein_distance" [.w (.str x),.w (.str y),.w (.int mc)] σ (.w (.int (lev x y mc))) σ
section
variable {K:Kc} {n:Nat} {σ σ':List (Addr × O)} {env:Env} {mN:Str→Option Value} {ρ ρ':Lo}
theorem zY9:zb6 ze0=[lawS 0,lawS 1,lawS 2,lawS 3]++lawS 4::lawS 5::lawS 6::lawS 7::lawS 8::lawS 9::lawS 10::lawS 11::([lawS 12,lawS 13,lawS 14,lawS 15]++lawS 16::([lawS 17,lawS 18]++lawS 19::lawS 20::lawS 21::lawS 22::lawS 23::lawS 24::lawS 25::lawS 26::lawS 27::[lawS 28,lawS 29,lawS 30,lawS 31])):=by rfl
theorem yj7 (he:env.scope=za4 ze0) {P:Addr} {q:Str} (C:LawC K mN n P q) (hP:(P,O.codes (zc1 q))∈σ) (hs:List Nat) (h5 low tn:Nat) (hl5:hs.length=5) (hlow:low<13) :
  Ex K n env ⟨[("heaps",some (.w (HW hs h5))),("turn",some (.w (.int tn))),("flags",some (.w (.list (za8 low 8)))),("due",none),("own",some (.w (.list (ownW low hs)))),("far",some (.w (.list ((farF hs 5).map W.int)))),("met",none),("rows",none),("step",none),("old",none),("new",none),("changed",none),("sent",none),("even",none),("reader",none),("signs",none),("counts",none),("squares",none)],[]⟩ σ
   (lawS 22::lawS 23::lawS 24::lawS 25::lawS 26::lawS 27::[lawS 28,lawS 29,lawS 30,lawS 31]) (.ret (.w (.bool true))) ⟨[],[]⟩ σ:=by
 conv=>arg 6; arg 1; whnf
 refine Ex.assignN (o:=.list (metL low (hs.map (· % 8)) 1)) (σ₁:=σ) ?_ (fun ma=>⟨[("heaps",some (.w (HW hs h5))),("turn",some (.w (.int tn))),("flags",some (.w (.list (za8 low 8)))),("due",none),("own",some (.w (.list (ownW low hs)))),("far",some (.w (.list ((farF hs 5).map W.int)))),("met",some (.ref ma)),("rows",none),("step",none),("old",none),("new",none),("changed",none),("sent",none),("even",none),("reader",none),("signs",none),("counts",none),("squares",none)],[]⟩) (fun ma=>by walk_at "setv") (fun ma=>?_) (by rfl)
 ·show EvN K n env _ _ σ (.list [.list [.int 0,.int 25]]) σ
  exact EvN.list (EvW.cons (Ev.list (EvW.cons Ev.cint (EvW.cons Ev.cint EvW.nil (by rfl)) (by rfl)) (by rw [sizeLine_eq]; simp)) EvW.nil (by rfl)) (by rw [sizeLine_eq]; simp)
 refine Ex.cons (ρ₁:=⟨[("heaps",some (.w (HW hs h5))),("turn",some (.w (.int tn))),("flags",some (.w (.list (za8 low 8)))),("due",none),("own",some (.w (.list (ownW low hs)))),("far",some (.w (.list ((farF hs 5).map W.int)))),("met",some (.ref ma)),("rows",some (.w (.list (ze2 hs 0)))),("step",none),("old",none),("new",none),("changed",none),("sent",none),("even",none),("reader",none),("signs",none),("counts",none),("squares",none)],[]⟩) (σ₁:=(ma,.list (metL low (hs.map (· % 8)) 1))::σ) ?_ ?_
 ·rw [← rows0 hs hl5]
  conv=>arg 6; whnf
  walk_at "as"
  exact Ev.bin (σ₁:=(ma,.list (metL low (hs.map (· % 8)) 1))::σ) (Ev.list (EvW.cons (Ev.cstr (l:=[46]) (by kernel_rfl) (by rw [sizeLine_eq]; simp)) EvW.nil (by rfl)) (by rw [sizeLine_eq]; simp)) Ev.cint (Opn.mulL (by decide) (by decide) (by simp))
 refine Ex.cons (zY4 he C.range1 C.range2 C.len1 C.len2 C.sent hs hl5 low tn hlow ma _ _) ?_
 refine Ex.freeze (x := "met") (a:=ma) (xs:=metL low (hs.map (· % 8)) 8) (σ₁:=σ) (ρ₁:=⟨[("heaps",some (.w (HW hs h5))),("turn",none),("flags",none),("due",none),("own",none),("far",some (.w (.list ((farF hs 5).map W.int)))),("met",some (.w (.list (metL low (hs.map (· % 8)) 8)))),("rows",none),("step",none),("old",none),("new",none),("changed",none),("sent",some (.w (.str (zd0 hs (tn+7) 6)))),("even",none),("reader",none),("signs",none),("counts",none),("squares",none)],[]⟩) (by walk_at "mem") .head (by walk_at "setv") ?_
 refine Ex.pre (ρ₁ :=
  ⟨[("heaps",some (.w (HW hs h5))),("due",none),("far",some (.w (.list ((farF hs 5).map W.int)))),("met",some (.w (.list (metL low (hs.map (· % 8)) 8)))),("sent",some (.w (.str (zd0 hs (tn+7) 6)))),("reader",none),("signs",none),("counts",none),("squares",none)],[]⟩) (σ₁:=σ) ?_ (by walk_at "less") (List.Sublist.refl _)
 refine law_d he C.hd C.range1 C.range2 C.sum1 C.sum2 C.lexc hP C.lexn hs h5 (tn+7) hl5 _ _ ?_
 refine Ex.pre (ρ₁ :=
  ⟨[("far",some (.w (.list ((farF hs 5).map W.int)))),("met",some (.w (.list (metL low (hs.map (· % 8)) 8)))),("signs",none),("counts",none),("squares",none)],[]⟩) (σ₁:=σ) ?_ (by walk_at "less") (List.Sublist.refl _)
 exact law_e he C.hd C.range1 C.range2 C.sum1 C.sum2 C.sig hs low hl5
theorem yj8 (he:env.scope=za4 ze0) {P:Addr} {q:Str} (C:LawC K mN n P q) (hP:(P,O.codes (zc1 q))∈σ) (hs:List Nat) (h5 low tn:Nat) (hl5:hs.length=5) (hlow:low<13) :
  Ex K n env ⟨("heaps",some (.w (HW hs h5)))::("low",some (.w (.int low)))::("turn",some (.w (.int tn)))::("names",some (.w (.list (nm3 low))))::("flags",some (.w (.list (za8 low 8))))::("due",none)::("numbers",some (.w (.list (numW low hs))))::("kinds",some (.w (.list (kdW hs))))::("own",none)::("letters",none)::("words",none)::("forms",none)::("word",none)::("lexer",none)::("far",none)::("place",none)::("one",none)::("later",none)::("other",none)::("more",none)::("lies",none)::("met",none)::("rows",none)::("step",none)::("old",none)::("new",none)::("changed",none)::("sent",none)::("even",none)::("reader",none)::("signs",none)::("counts",none)::("squares",none)::[],[]⟩ σ
   ([lawS 12,lawS 13,lawS 14,lawS 15]++lawS 16::([lawS 17,lawS 18]++lawS 19::lawS 20::lawS 21::lawS 22::lawS 23::lawS 24::lawS 25::lawS 26::lawS 27::[lawS 28,lawS 29,lawS 30,lawS 31])) (.ret (.w (.bool true))) ⟨[],[]⟩ σ:=by
 refine Ex.append (law_c he C.hd C.range1 C.range2 C.zip1 C.zip2 hs low hl5 hlow _ _) ?_
 refine Ex.pre (ρ₁ :=
  ⟨[("heaps",some (.w (HW hs h5))),("turn",some (.w (.int tn))),("flags",some (.w (.list (za8 low 8)))),("due",none),("own",some (.w (.list (ownW low hs)))),("words",some (.w (.list (za2 hs)))),("forms",some (.w (.list (zn3 hs)))),("word",none),("lexer",none),("far",none),("place",none),("one",none),("later",none),("other",none),("more",none),("lies",none),("met",none),("rows",none),("step",none),("old",none),("new",none),("changed",none),("sent",none),("even",none),("reader",none),("signs",none),("counts",none),("squares",none)],[]⟩) (σ₁:=σ) ?_ (by walk_at "less") (List.Sublist.refl _)
 refine zY8 he hP C.lexn C.sent hs tn hl5 _ _ _ fun lx=>?_
 refine Ex.append (zY7 he C.range1 C.range2 C.lexc hs tn hl5 lx _ _ _) ?_
 refine Ex.pre (ρ₁ :=
  ⟨[("heaps",some (.w (HW hs h5))),("turn",some (.w (.int tn))),("flags",some (.w (.list (za8 low 8)))),("due",none),("own",some (.w (.list (ownW low hs)))),("words",some (.w (.list (za2 hs)))),("word",none),("lexer",some (.ref lx)),("far",none),("place",none),("one",none),("later",none),("other",none),("more",none),("lies",none),("met",none),("rows",none),("step",none),("old",none),("new",none),("changed",none),("sent",none),("even",none),("reader",none),("signs",none),("counts",none),("squares",none)],[]⟩) (σ₁:=(lx,.lex (zb8 tn hs) (za7 (zb8 tn hs) 5).1 (za7 (zb8 tn hs) 5).2 (za2 hs))::σ) ?_ (by walk_at "less") (List.Sublist.refl _)
 conv=>arg 6; arg 1; whnf
 refine Ex.assignN (o:=.list []) (σ₁:=(lx,.lex (zb8 tn hs) (za7 (zb8 tn hs) 5).1 (za7 (zb8 tn hs) 5).2 (za2 hs))::σ) ?_ (fun fa=>⟨[("heaps",some (.w (HW hs h5))),("turn",some (.w (.int tn))),("flags",some (.w (.list (za8 low 8)))),("due",none),("own",some (.w (.list (ownW low hs)))),("words",some (.w (.list (za2 hs)))),("word",none),("lexer",some (.ref lx)),("far",some (.ref fa)),("place",none),("one",none),("later",none),("other",none),("more",none),("lies",none),("met",none),("rows",none),("step",none),("old",none),("new",none),("changed",none),("sent",none),("even",none),("reader",none),("signs",none),("counts",none),("squares",none)],[]⟩) (fun fa=>by walk_at "setv") (fun fa=>?_) (by rfl)
 ·exact EvN.list EvW.nil
 refine Ex.cons (zY6 he C.hd C.range1 C.range2 C.abs1 C.abs2 C.len1 C.len2 C.min1 C.min2 C.lexc C.lev hs hl5 _ _ _ fa lx _ _ _ _) ?_
 refine Ex.freeze (x := "far") (a:=fa) (xs:=(farF hs 5).map W.int) (σ₁:=(lx,.lex (zb8 tn hs) (za7 (zb8 tn hs) 5).1 (za7 (zb8 tn hs) 5).2 [])::σ) (ρ₁:=⟨[("heaps",some (.w (HW hs h5))),("turn",some (.w (.int tn))),("flags",some (.w (.list (za8 low 8)))),("due",none),("own",some (.w (.list (ownW low hs)))),("words",some (.w (.list (za2 hs)))),("word",none),("lexer",some (.ref lx)),("far",some (.w (.list ((farF hs 5).map W.int)))),("place",none),("one",none),("later",none),("other",none),("more",none),("lies",none),("met",none),("rows",none),("step",none),("old",none),("new",none),("changed",none),("sent",none),("even",none),("reader",none),("signs",none),("counts",none),("squares",none)],[]⟩) (by walk_at "mem") .head (by walk_at "setv") ?_
 refine Ex.cons (zY5 he C.lexc hs tn hl5 lx _ _ _ _ _ _) ?_
 refine Ex.pre (ρ₁ :=
  ⟨[("heaps",some (.w (HW hs h5))),("turn",some (.w (.int tn))),("flags",some (.w (.list (za8 low 8)))),("due",none),("own",some (.w (.list (ownW low hs)))),("far",some (.w (.list ((farF hs 5).map W.int)))),("met",none),("rows",none),("step",none),("old",none),("new",none),("changed",none),("sent",none),("even",none),("reader",none),("signs",none),("counts",none),("squares",none)],[]⟩) (σ₁:=σ) ?_ (by walk_at "less") (List.Sublist.refl _)
 exact yj7 he C hP hs h5 low tn hl5 hlow
theorem zZ0 (he:env.scope=za4 ze0) {P:Addr} {q:Str} (C:LawC K mN n P q) (hP:(P,O.codes (zc1 q))∈σ) (ns:List Int) (hn:ns.length≤63) :
  ExF K n env ⟨("script",some (.w (.list (ns.map W.int))))::("heaps",none)::("low",none)::("turn",none)::("names",none)::("flags",none)::("number",none)::("told",none)::("due",none)::("octets",none)::("heap",none)::("tape",none)::("numbers",none)::("kinds",none)::("own",none)::("letters",none)::("words",none)::("forms",none)::("word",none)::("lexer",none)::("far",none)::("place",none)::("one",none)::("later",none)::("other",none)::("more",none)::("lies",none)::("met",none)::("rows",none)::("step",none)::("old",none)::("new",none)::("changed",none)::("sent",none)::("even",none)::("reader",none)::("signs",none)::("counts",none)::("squares",none)::[],[]⟩ σ (zb6 ze0) (.ret (.w (.bool true))) ⟨[],[]⟩ σ:=by
 refine zc7 (heap6 ns) fun hs h5 hl5 hh=>?_
 refine zd4 C.stop fun fv f1 f2 f3=>?_
 have hlow:h5%13<13:=Nat.mod_lt _ (by decide)
 rw [zY9]
 refine ExF.app (law_a he hs h5 hl5 ns hh (C.heaps σ ns hn) (fun low h=>C.nam σ low h)) ?_
 generalize h5%13=low at *
 generalize h5/13=tn at *
 refine ExF.pre (ρ₁ :=
  ⟨("heaps",some (.w (HW hs h5)))::("low",some (.w (.int low)))::("turn",some (.w (.int tn)))::("names",some (.w (.list (nm3 low))))::("flags",none)::("number",none)::("told",none)::("due",none)::("octets",none)::("heap",none)::("tape",none)::("numbers",none)::("kinds",none)::("own",none)::("letters",none)::("words",none)::("forms",none)::("word",none)::("lexer",none)::("far",none)::("place",none)::("one",none)::("later",none)::("other",none)::("more",none)::("lies",none)::("met",none)::("rows",none)::("step",none)::("old",none)::("new",none)::("changed",none)::("sent",none)::("even",none)::("reader",none)::("signs",none)::("counts",none)::("squares",none)::[],[]⟩) (σ₁:=σ) ?_ (by walk_at "less") (List.Sublist.refl _)
 conv=>arg 6; arg 1; whnf
 refine ExF.assignN (o:=.list []) (σ₁:=σ) ?_ (fun fa=>⟨("heaps",some (.w (HW hs h5)))::("low",some (.w (.int low)))::("turn",some (.w (.int tn)))::("names",some (.w (.list (nm3 low))))::("flags",some (.ref fa))::("number",none)::("told",none)::("due",none)::("octets",none)::("heap",none)::("tape",none)::("numbers",none)::("kinds",none)::("own",none)::("letters",none)::("words",none)::("forms",none)::("word",none)::("lexer",none)::("far",none)::("place",none)::("one",none)::("later",none)::("other",none)::("more",none)::("lies",none)::("met",none)::("rows",none)::("step",none)::("old",none)::("new",none)::("changed",none)::("sent",none)::("even",none)::("reader",none)::("signs",none)::("counts",none)::("squares",none)::[],[]⟩) (fun fa=>by walk_at "setv") (fun fa=>?_) (by rfl)
 ·exact EvN.list EvW.nil
 refine ExF.cons (ye6 he C.range1 C.range2 C.pre low hlow fa _ _) ?_
 refine ExF.freeze (x := "flags") (a:=fa) (xs:=za8 low 8) (σ₁:=σ) (ρ₁:=⟨("heaps",some (.w (HW hs h5)))::("low",some (.w (.int low)))::("turn",some (.w (.int tn)))::("names",some (.w (.list (nm3 low))))::("flags",some (.w (.list (za8 low 8))))::("number",none)::("told",none)::("due",none)::("octets",none)::("heap",none)::("tape",none)::("numbers",none)::("kinds",none)::("own",none)::("letters",none)::("words",none)::("forms",none)::("word",none)::("lexer",none)::("far",none)::("place",none)::("one",none)::("later",none)::("other",none)::("more",none)::("lies",none)::("met",none)::("rows",none)::("step",none)::("old",none)::("new",none)::("changed",none)::("sent",none)::("even",none)::("reader",none)::("signs",none)::("counts",none)::("squares",none)::[],[]⟩) (by walk_at "mem") .head (by walk_at "setv") ?_
 refine ExF.pre (ρ₁ :=
  ⟨("heaps",some (.w (HW hs h5)))::("low",some (.w (.int low)))::("turn",some (.w (.int tn)))::("names",some (.w (.list (nm3 low))))::("flags",some (.w (.list (za8 low 8))))::("due",none)::("octets",none)::("heap",none)::("tape",none)::("numbers",none)::("kinds",none)::("own",none)::("letters",none)::("words",none)::("forms",none)::("word",none)::("lexer",none)::("far",none)::("place",none)::("one",none)::("later",none)::("other",none)::("more",none)::("lies",none)::("met",none)::("rows",none)::("step",none)::("old",none)::("new",none)::("changed",none)::("sent",none)::("even",none)::("reader",none)::("signs",none)::("counts",none)::("squares",none)::[],[]⟩) (σ₁:=σ) ?_ (by walk_at "less") (List.Sublist.refl _)
 refine law_b he C.hd C.iter1 C.iter2 C.stop1 C.stop2 C.oct C.var f1 f2 f3 hs h5 low tn hl5 hlow _ _ ?_
 refine ExF.pre (ρ₁ :=
  ⟨("heaps",some (.w (HW hs h5)))::("low",some (.w (.int low)))::("turn",some (.w (.int tn)))::("names",some (.w (.list (nm3 low))))::("flags",some (.w (.list (za8 low 8))))::("due",none)::("numbers",some (.w (.list (numW low hs))))::("kinds",some (.w (.list (kdW hs))))::("own",none)::("letters",none)::("words",none)::("forms",none)::("word",none)::("lexer",none)::("far",none)::("place",none)::("one",none)::("later",none)::("other",none)::("more",none)::("lies",none)::("met",none)::("rows",none)::("step",none)::("old",none)::("new",none)::("changed",none)::("sent",none)::("even",none)::("reader",none)::("signs",none)::("counts",none)::("squares",none)::[],[]⟩) (σ₁:=σ) ?_ (by walk_at "less") (List.Sublist.refl _)
 exact ExF.of (yj8 he C hP hs h5 low tn hl5 hlow)
end
theorem zO0 {K:Kc} {gh h₁:Heap} {L fa P:Addr} {cd:Value} {name:Str} {sc:Scope} {m:Str→Option Value} {lst:Addr} {vs:List Value} {ns:List Int} {tk:Nat} {cs:List (Pos × Str)} {p:Str} {names:List Str}
  (hK:K.s₀.heap=gh) (hd:K.hd=none) (G:Gnd K) (F:Fr gh L h₁ m) (hP:h₁.get? P=some (tabObj #[])) (hP0:gh.get? P=none) (hPL:P<L) (hk:sc.kind = .function)
  (hc : ∀ x c,(cellsFrom (L+1) sc.names []).lookup x=some c→(∃ u,h₁.IsCell c u)∧gh.get? c=none∧L<c)
  (hinj : ∀ x y c,(cellsFrom (L+1) sc.names []).lookup x=some c→(cellsFrom (L+1) sc.names []).lookup y=some c→x=y)
  (hm:m p=some (.ref lst)) (hsk:sc.names.lookup p=some .local) (hlst:gh.get? lst=some { cls:=.type "list",data:=.seq vs.toArray }) (hI:IntsAre vs ns) (hns:ns.length≤sizeLine)
  (hn : ∀ x∈names,sc.names.lookup x=some .local∨sc.names.lookup x=some .cell) (hnd:(p::names).Nodup) :
  ∃ g:Gh,Rep K g (envOfC name sc L fa cd) ⟨(p,some (.w (.list (ns.map W.int))))::names.map (fun x=>(x,none)),[]⟩ [(P,.codes cs)] { K.s₀ with heap:=h₁,toks:=tk }:=by
 classical
 let fr:Addr→Prop:=fun b=>b=L∨∃ x,(cellsFrom (L+1) sc.names []).lookup x=some b
 let g:Gh:=⟨fun a=>if a=P then some (.obj P) else if fr a then some .frame else if (gh.get? a).isSome then some .base else none,fun a=>(gh.get? a).getD default⟩
 have frG : ∀ b,fr b→gh.get? b=none:=by
  rintro b (rfl | ⟨x,hx⟩)
  ·cases e:gh.get? b with
   | none=>rfl
   | some o=>exact absurd (Heap.lt_size e) (Nat.not_lt.mpr F.above)
  ·exact (hc x b hx).2.1
 have frP : ∀ b,fr b→b≠P:=by
  rintro b (rfl | ⟨x,hx⟩) e
  ·subst e; exact absurd hPL (Nat.lt_irrefl _)
  ·subst e; exact absurd (Nat.lt_trans hPL (hc x _ hx).2.2) (Nat.lt_irrefl _)
 have tP:g.tag P=some (.obj P):=if_pos rfl
 have tF : ∀ b,fr b→g.tag b=some .frame:=fun b hb=>by show (if b=P then _ else if fr b then _ else _)=_; rw [if_neg (frP b hb),if_pos hb]
 have tB : ∀ b o,gh.get? b=some o→g.tag b=some .base∧g.con b=o:=fun b o hb=>by
  have n1:b≠P:=fun e=>by subst e; rw [hP0] at hb; cases hb
  have n2 : ¬ fr b:=fun h=>by rw [frG b h] at hb; cases hb
  refine ⟨?_,?_⟩
  ·show (if b=P then _ else if fr b then _ else if (gh.get? b).isSome then _ else _)=_
   rw [if_neg n1,if_neg n2,if_pos (by rw [hb]; rfl)]
  ·show (gh.get? b).getD default=o
   rw [hb]; rfl
 have inv : ∀ b t,g.tag b=some t→(b=P∧t = .obj P)∨(fr b∧t = .frame)∨(∃ o,gh.get? b=some o∧t = .base):=fun b t hb=>by
  by_cases e1:b=P
  ·subst e1; rw [tP] at hb; cases hb; exact .inl ⟨rfl,rfl⟩
  ·by_cases e2:fr b
   ·rw [tF b e2] at hb; cases hb; exact .inr (.inl ⟨e2,rfl⟩)
   ·have:(if (gh.get? b).isSome then some Tag.base else none)=some t:=by
     have hb':(if b=P then some (Tag.obj P) else if fr b then some Tag.frame else if (gh.get? b).isSome then some Tag.base else none)=some t:=hb
     rw [if_neg e1,if_neg e2] at hb'; exact hb'
    cases e3:gh.get? b with
    | none=>rw [e3] at this; cases this
    | some o=>rw [e3] at this; simp at this; exact .inr (.inr ⟨o,rfl,this.symm⟩)
 have hkd : ∀ x,(envOfC name sc L fa cd).kindOf x=sc.names.lookup x:=fun x=>rfl
 refine ⟨g,G,.inl hd,⟨h₁,tk,rfl⟩,fun a t ha=>?_,fun a ha=>?_,fun a o ho=>tB a o (hK ▸ ho),?_,fun a o hm'=>?_,by simp⟩
 ·rcases inv a t ha with ⟨rfl,_⟩ | ⟨h,_⟩ | ⟨o,h,_⟩
  ·exact ⟨_,hP⟩
  ·rcases h with rfl | ⟨x,hx⟩
   ·refine zd9 F.ns fun o _ _ e _=>?_; exact ⟨o,e⟩
   ·(have zq:=hc x a hx; have zq0:=zq.1; obtain ⟨u,o,e,_⟩:=zq0); exact ⟨o,e⟩
  ·exact ⟨o,F.keep _ _ h⟩
 ·have : ∃ o,gh.get? a=some o:=by
   rcases ha with ha | ha <;> rcases inv a _ ha with ⟨_,h⟩ | ⟨_,h⟩ | ⟨o,h,h'⟩ <;> first | (cases h; done) | exact ⟨o,h⟩ | (cases h'; done)
  obtain ⟨o,ho⟩:=this
  show h₁.get? a=some (g.con a)
  rw [(tB a o ho).2]; exact F.keep _ _ ho
 ·exact {
   kind:=hk
   glob:=rfl
   bui:=rfl
   nd:=by
    simp only [List.map_cons,List.map_map]
    have:(Prod.fst∘fun x:Str=>(x,(none:Option V)))=id:=rfl
    rw [this,List.map_id]; exact hnd
   lt:=tF _ (.inl rfl)
   inj:=hinj
   nel:=fun x c h=>Nat.ne_of_gt (hc x c h).2.2
   var:=by
    refine ⟨m,F.ns,fun x ov hx=>?_⟩
    rcases List.mem_cons.mp hx with e | hx
    ·cases e
     refine .inl ⟨hsk,?_⟩
     show OV _ _ (m p)
     rw [hm]
     show RW g (.list (ns.map W.int)) (.ref lst)
     simp only [RW]
     exact ⟨lst,vs.toArray,rfl,(tB lst _ hlst).1,⟨0,(tB lst _ hlst).2⟩,by simpa using hns,by simpa using RWs.ints hI⟩
    ·refine obEA (List.mem_map.mp hx) fun y hy e=>?_
     cases e
     rcases hn _ hy with h | h
     ·exact .inl ⟨h,trivial⟩
     ·have:=zb0 sc.names (L+1) [] _ h
      obtain ⟨c,hcc⟩:=Option.isSome_iff_exists.mp this
      (have zq:=hc _ c hcc; have zq0:=zq.1; obtain ⟨u,hu⟩:=zq0)
      exact .inr ⟨h,c,u,hcc,tF c (.inr ⟨_,hcc⟩),hu,trivial⟩
   cap:=fun x v hx=>(nomatch hx) }
 ·rw [List.mem_singleton] at hm'
  cases hm'
  exact ⟨tP, #[],hP,trivial,fun p hp cv h=>(nomatch h)⟩
end Mine
set_option maxRecDepth 100000 in
set_option maxHeartbeats 8000000 in
open_top hd2 for (PySem.Challenge.rw_uc0008_02).row
namespace Mine
theorem lnx0 {us:List Value} (h:us.length=0):us=[]:=List.length_eq_zero_iff.mp h
theorem lnxs {us:List Value} {n:Nat} (h:us.length=n+1) : ∃ u t,us=u::t∧t.length=n:=let ⟨a,t,e⟩:=List.exists_cons_of_length_eq_add_one h; ⟨a,t,e,Nat.succ.inj ((congrArg List.length e).symm.trans h)⟩
theorem lnx1 {us:List Value} (h:us.length=1) : ∃ u,us=[u]:=let ⟨u,t,e,h⟩:=lnxs h; ⟨u,by rw [e,lnx0 h]⟩
theorem lnx2 {us:List Value} (h:us.length=2) : ∃ u v,us=[u,v]:=let ⟨u,t,e,h⟩:=lnxs h; let ⟨v,h⟩:=lnx1 h; ⟨u,v,by rw [e,h]⟩
theorem lnx3 {us:List Value} (h:us.length=3) : ∃ u v w,us=[u,v,w]:=let ⟨u,t,e,h⟩:=lnxs h; let ⟨v,w,h⟩:=lnx2 h; ⟨u,v,w,by rw [e,h]⟩
theorem zd5 {K:Kc} {Fg:Frag} (X:Fg.In K.s₀.heap) (G:K.s₀.heap.Ns mainGlobals K.mg) {x:Str} {st:Stmt} {a:Addr} {fd:FuncData} {c:Value} {dc:Option Addr} {sl:Array (Option Value)} (h1:nsIn Fg mainGlobals x=some (some (.ref a))) (h2:Fg.lookup a=some ⟨c,dc,.func fd,sl⟩)
  (h3:codeIn Fg fd.code fd.qualname=true) (h4:fd.closure=[]) (h5:fd.globals=mainGlobals) (h6:fd.builtins=builtinsNs) (h7:fd.body = .stmts (zb6 st)) (h8:fd.scope=za4 st)
  (h9 : ∀ us:List Value,us.length=(zh6 st).length→bindArgs fd ⟨us,[]⟩=pure ((zh6 st).zip us)):DefAt K x st a fd where
 mg:=mg_of X G h1
 fn:=⟨⟨_,X _ _ h2,rfl⟩,codeRec_of X h3,h4,h5,h6⟩
 body:=h7
 scope:=h8
 bind:=h9
section
variable {K:Kc} {P:Params} 
theorem yg5 (X:(hd2.heap_1 P).In K.s₀.heap) (G:K.s₀.heap.Ns mainGlobals K.mg) : ∃ a fd,DefAt K "_law_heaps" zS5 a fd :=
 ⟨126,_,zd5 X G (by kernel_rfl) (c:=.type "function") (dc:=none) (sl := #[]) (by rfl) (by kernel_rfl) rfl rfl rfl (by rfl) (by rfl) (fun us hu=>by obtain ⟨u,rfl⟩:=lnx1 hu; rfl)⟩
theorem yg3 (X:(hd2.heap_1 P).In K.s₀.heap) (G:K.s₀.heap.Ns mainGlobals K.mg) : ∃ fd,DefAt K "_law_names" zQ6 131 fd :=
 ⟨_,zd5 X G (by kernel_rfl) (c:=.type "function") (dc:=none) (sl := #[]) (by rfl) (by kernel_rfl) rfl rfl rfl (by rfl) (by rfl) (fun us hu=>by obtain ⟨u,rfl⟩:=lnx1 hu; rfl)⟩
theorem yl9 (X:(hd2.heap_1 P).In K.s₀.heap) (G:K.s₀.heap.Ns mainGlobals K.mg) : ∃ fd,DefAt K "_law_sent" yb2 150 fd :=
 ⟨_,zd5 X G (by kernel_rfl) (c:=.type "function") (dc:=none) (sl := #[]) (by rfl) (by kernel_rfl) rfl rfl rfl (by rfl) (by rfl) (fun us hu=>by (refine zd6 (lnx3 hu) fun u v w zq3=>?_; subst zq3); rfl)⟩
theorem yg2 (X:(hd2.heap_1 P).In K.s₀.heap) (G:K.s₀.heap.Ns mainGlobals K.mg) : ∃ fd,DefAt K "_law_signs" zO2 155 fd :=
 ⟨_,zd5 X G (by kernel_rfl) (c:=.type "function") (dc:=none) (sl := #[]) (by rfl) (by kernel_rfl) rfl rfl rfl (by rfl) (by rfl) (fun us hu=>by obtain ⟨u,rfl⟩:=lnx1 hu; rfl)⟩
theorem d_oct (X:(hd2.heap_1 P).In K.s₀.heap) (G:K.s₀.heap.Ns mainGlobals K.mg) : ∃ fd,DefAt K "_law_octets" yi6 136 fd :=
 ⟨_,zd5 X G (by kernel_rfl) (c:=.type "function") (dc:=none) (sl := #[]) (by rfl) (by kernel_rfl) rfl rfl rfl (by rfl) (by rfl) (fun us hu=>by (refine obEE (lnx2 hu) fun u v zq2=>?_; subst zq2); rfl)⟩
theorem yg4 (X:(hd2.heap_1 P).In K.s₀.heap) (G:K.s₀.heap.Ns mainGlobals K.mg) : ∃ fd,DefAt K "_law_lexer" zf4 143 fd∧fd.code = .ref 142∧fd.qualname = "_law_lexer" :=
 ⟨_,zd5 X G (by kernel_rfl) (c:=.type "function") (dc:=none) (sl := #[]) (by rfl) (by kernel_rfl) rfl rfl rfl (by rfl) (by rfl) (fun us hu=>by obtain ⟨u,rfl⟩:=lnx1 hu; rfl),rfl,rfl⟩
theorem yl8 (X:(hd2.heap_1 P).In K.s₀.heap) (G:K.s₀.heap.Ns mainGlobals K.mg) : ∃ fd,DefAt K "_parse_varint" zM9 63 fd :=
 ⟨_,zd5 X G (by kernel_rfl) (c:=.type "function") (dc:=none) (sl := #[]) (by rfl) (by kernel_rfl) rfl rfl rfl (by rfl) (by rfl) (fun us hu=>by obtain ⟨u,rfl⟩:=lnx1 hu; rfl)⟩
theorem ya2 (X:(hd2.heap_1 P).In K.s₀.heap) (G:K.s₀.heap.Ns mainGlobals K.mg) : ∃ fd,DefAt K "pretty_flags" zi3 56 fd :=
 ⟨_,zd5 X G (by kernel_rfl) (c:=.type "function") (dc:=none) (sl := #[]) (by rfl) (by kernel_rfl) rfl rfl rfl (by rfl) (by rfl) (fun us hu=>by obtain ⟨u,rfl⟩:=lnx1 hu; rfl)⟩
theorem d_quo (X:(hd2.heap_1 P).In K.s₀.heap) (G:K.s₀.heap.Ns mainGlobals K.mg) : ∃ fd,DefAt K "quotedata" yi0 48 fd :=
 ⟨_,zd5 X G (by kernel_rfl) (c:=.type "function") (dc:=none) (sl := #[]) (by rfl) (by kernel_rfl) rfl rfl rfl (by rfl) (by rfl) (fun us hu=>by obtain ⟨u,rfl⟩:=lnx1 hu; rfl)⟩
theorem d_lev (X:(hd2.heap_1 P).In K.s₀.heap) (G:K.s₀.heap.Ns mainGlobals K.mg) : ∃ fd,DefAt K "_levenshtein_distance" zg6 119 fd :=
 ⟨_,zd5 X G (by kernel_rfl) (c:=.type "function") (dc:=none) (sl := #[]) (by rfl) (by kernel_rfl) rfl rfl rfl (by rfl) (by rfl) (fun us hu=>by (refine zd6 (lnx3 hu) fun u v w zq3=>?_; subst zq3); rfl)⟩
theorem d_sub (X:(hd2.heap_1 P).In K.s₀.heap) (G:K.s₀.heap.Ns mainGlobals K.mg) : ∃ fd,DefAt K "_substitution_cost" yh8 112 fd :=
 ⟨_,zd5 X G (by kernel_rfl) (c:=.type "function") (dc:=none) (sl := #[]) (by rfl) (by kernel_rfl) rfl rfl rfl (by rfl) (by rfl) (fun us hu=>by (refine obEE (lnx2 hu) fun u v zq2=>?_; subst zq2); rfl)⟩
theorem zl0 {K:Kc} {Fg:Frag} {N:Addr} {mN:Str→Option Value} (X:Fg.In K.s₀.heap) {x:Str} {st:Stmt} {a:Addr} {fd:FuncData} {dc:Option Addr} {sl:Array (Option Value)} (h1:mN x=some (.ref a)) (h2:Fg.lookup a=some ⟨.type "function",dc,.func fd,sl⟩)
  (h3:codeIn Fg fd.code fd.qualname=true) (h4:fd.closure=[]) (h5:fd.globals=mainGlobals) (h6:fd.builtins=builtinsNs) (h7:fd.body = .stmts (zb6 st)) (h8:fd.scope=za4 st)
  (h9 : ∀ us:List Value,us.length=(zh6 st).length→bindArgs fd ⟨us,[]⟩=pure ((zh6 st).zip us)):MethAt K mN x st a fd where
 nm:=h1
 fn:=⟨⟨_,X _ _ h2,rfl⟩,codeRec_of X h3,h4,h5,h6⟩
 cls:=⟨_,X _ _ h2,rfl⟩
 body:=h7
 scope:=h8
 bind:=h9
theorem yj4 {mN:Str→Option Value} (X:(hd2.heap_1 P).In K.s₀.heap) (h:mN "__init__" = some (.ref 77)) : ∃ fd,MethAt K mN "__init__" zS3 77 fd :=
 ⟨_,zl0 (N:=100) X h (dc:=none) (sl := #[]) (by rfl) (by kernel_rfl) rfl rfl rfl (by rfl) (by rfl) (fun us hu=>by (refine obEE (lnx2 hu) fun u v zq2=>?_; subst zq2); rfl)⟩
theorem yj2 {mN:Str→Option Value} (X:(hd2.heap_1 P).In K.s₀.heap) (h:mN "_read_char" = some (.ref 84)) : ∃ fd,MethAt K mN "_read_char" zW8 84 fd :=
 ⟨_,zl0 (N:=100) X h (dc:=none) (sl := #[]) (by rfl) (by kernel_rfl) rfl rfl rfl (by rfl) (by rfl) (fun us hu=>by obtain ⟨u,rfl⟩:=lnx1 hu; rfl)⟩
theorem m_get {mN:Str→Option Value} (X:(hd2.heap_1 P).In K.s₀.heap) (h:mN "get_token" = some (.ref 91)) : ∃ fd,MethAt K mN "get_token" zA6 91 fd :=
 ⟨_,zl0 (N:=100) X h (dc:=none) (sl := #[]) (by rfl) (by kernel_rfl) rfl rfl rfl (by rfl) (by rfl) (fun us hu=>by obtain ⟨u,rfl⟩:=lnx1 hu; rfl)⟩
theorem yj3 {mN:Str→Option Value} (X:(hd2.heap_1 P).In K.s₀.heap) (h:mN "push_token" = some (.ref 98)) : ∃ fd,MethAt K mN "push_token" yi2 98 fd :=
 ⟨_,zl0 (N:=100) X h (dc:=none) (sl := #[]) (by rfl) (by kernel_rfl) rfl rfl rfl (by rfl) (by rfl) (fun us hu=>by (refine obEE (lnx2 hu) fun u v zq2=>?_; subst zq2); rfl)⟩
end
end Mine
namespace Mine
theorem zQ3 {Fg:Frag} {h:Heap} {N:Addr} {m:Str→Option Value} {n:Str} {v:Value} (X:Fg.In h) (G:h.Ns N m) (e:nsIn Fg N n=some (some v)):m n=some v:=by
 refine zX2 G fun o es ep ho hd hk hf=>?_
 unfold nsIn at e
 split at e
 ·rename_i c d es' n' sl q
  have hq:=(X _ _ q).symm.trans ho
  cases hq
  cases hd
  split at e
  ·rename_i en he
   simp only [Option.some.injEq] at e
   rw [← hf, ← e]
   unfold nsFind findBy
   rw [← Array.find?_toList,he]
   rfl
  ·split at e <;> simp at e
 ·cases e
noncomputable abbrev zn8 (f:Int→Option (List Nat)) (fv:Int→Option Value) (i:Int):Prop:=(f i=none∧fv i=none)∨∃ p t,f i=some p∧p.length≤sizeLine∧fv i=some (.str ⟨p.toArray⟩ t)
theorem ten {f:Int→Option (List Nat)} {fv:Int→Option Value} (h1:zn8 f fv 1) (h2:zn8 f fv 2) (h3:zn8 f fv 4) (h4:zn8 f fv 8) (h5:zn8 f fv 16) (h6:zn8 f fv 32) (h7:zn8 f fv 64) (h8:zn8 f fv 128) (h9:zn8 f fv 256) (h10:zn8 f fv 512)
  (hn : ∀ i,i≠1→i≠2→i≠4→i≠8→i≠16→i≠32→i≠64→i≠128→i≠256→i≠512→zn8 f fv i) (i:Int):zn8 f fv i :=
 if e1:i=1 then e1 ▸ h1 else if e2:i=2 then e2 ▸ h2 else if e3:i=4 then e3 ▸ h3 else if e4:i=8 then e4 ▸ h4 else if e5:i=16 then e5 ▸ h5 else
 if e6:i=32 then e6 ▸ h6 else if e7:i=64 then e7 ▸ h7 else if e8:i=128 then e8 ▸ h8 else if e9:i=256 then e9 ▸ h9 else if e10:i=512 then e10 ▸ h10 else hn i e1 e2 e3 e4 e5 e6 e7 e8 e9 e10
section
variable {K:Kc} {P:Params}
theorem zR4 (X:(hd2.heap_1 P).In K.s₀.heap) (hC:K.lexC=101) (hR:K.lexR=84):LexK K (K.s₀.heap.nsMap 100):=by
 have N:K.s₀.heap.Ns 100 (K.s₀.heap.nsMap 100):=.of_isNs (isNs_of_in X (by kernel_rfl))
 exact {
  cls:=by
   rw [hC]
   exact ⟨"_netrclex","_netrclex",100,[.type "object"],[],[],none,none,none,none,some (.str "_netrclex" 405),some (.str "_netrclex" 413),some (.bool true),X 101 _ (by rfl),N⟩
  ga:=ns_none_of X N (by kernel_rfl)
  gh:=ns_none_of X N (by kernel_rfl)
  sa:=ns_none_of X N (by kernel_rfl)
  line:=ns_none_of X N (by kernel_rfl)
  ins:=ns_none_of X N (by kernel_rfl)
  ws:=ns_none_of X N (by kernel_rfl)
  pb:=ns_none_of X N (by kernel_rfl)
  rd:=by rw [hR]; exact zQ3 X N (by kernel_rfl) }
theorem zR1 (X:(hd2.heap_1 P).In K.s₀.heap):K.s₀.heap.nsMap 100 "__init__" = some (.ref 77)∧K.s₀.heap.nsMap 100 "_read_char" = some (.ref 84)∧K.s₀.heap.nsMap 100 "get_token" = some (.ref 91)∧K.s₀.heap.nsMap 100 "push_token" = some (.ref 98):=by
 have N:K.s₀.heap.Ns 100 (K.s₀.heap.nsMap 100):=.of_isNs (isNs_of_in X (by kernel_rfl))
 exact ⟨zQ3 X N (by kernel_rfl),zQ3 X N (by kernel_rfl),zQ3 X N (by kernel_rfl),zQ3 X N (by kernel_rfl)⟩
theorem yd4 (X:(hd2.heap_1 P).In K.s₀.heap) (G:K.s₀.heap.Ns mainGlobals K.mg):QuoK K where
 cr:=⟨_,mg_of X G (by rfl)⟩
 r1:=⟨36,mg_of X G (by kernel_rfl),⟨_,_,35,_,_,X 36 _ (by rfl),rfl,rfl,rfl,by rfl,by rfl,by rfl,X 35 _ (by rfl),rfl,by rfl⟩⟩
 r2:=⟨41,mg_of X G (by kernel_rfl),⟨_,_,40,_,_,X 41 _ (by rfl),rfl,rfl,rfl,by rfl,by rfl,by rfl,X 40 _ (by rfl),rfl,by rfl⟩⟩
theorem yh7 (X:(hd2.heap_1 P).In K.s₀.heap) (G:K.s₀.heap.Ns mainGlobals K.mg) : ∃ fv,TabI K "COMPILER_FLAG_NAMES" zm5 49 fv:=by
 refine ⟨_,mg_of X G (by kernel_rfl),by decide,⟨_,_,_,X 49 _ (by rfl),⟨rfl,rfl,rfl⟩,rfl,fun e he=>?_,fun k=>rfl⟩,?_⟩
 ·simp only [List.mem_toArray,List.mem_cons,List.not_mem_nil,or_false] at he
  rcases he with rfl | rfl | rfl | rfl | rfl | rfl | rfl | rfl | rfl | rfl
  ·exact ⟨1,by kernel_rfl,by kernel_rfl⟩
  ·exact ⟨2,by kernel_rfl,by kernel_rfl⟩
  ·exact ⟨4,by kernel_rfl,by kernel_rfl⟩
  ·exact ⟨8,by kernel_rfl,by kernel_rfl⟩
  ·exact ⟨16,by kernel_rfl,by kernel_rfl⟩
  ·exact ⟨32,by kernel_rfl,by kernel_rfl⟩
  ·exact ⟨64,by kernel_rfl,by kernel_rfl⟩
  ·exact ⟨128,by kernel_rfl,by kernel_rfl⟩
  ·exact ⟨256,by kernel_rfl,by kernel_rfl⟩
  ·exact ⟨512,by kernel_rfl,by kernel_rfl⟩
 ·refine ten ?_ ?_ ?_ ?_ ?_ ?_ ?_ ?_ ?_ ?_ ?_
  ·exact .inr ⟨flagNames.getD 0 [],354,by kernel_rfl,by decide +kernel,by kernel_rfl⟩
  ·exact .inr ⟨flagNames.getD 1 [],356,by kernel_rfl,by decide +kernel,by kernel_rfl⟩
  ·exact .inr ⟨flagNames.getD 2 [],358,by kernel_rfl,by decide +kernel,by kernel_rfl⟩
  ·exact .inr ⟨flagNames.getD 3 [],360,by kernel_rfl,by decide +kernel,by kernel_rfl⟩
  ·exact .inr ⟨flagNames.getD 4 [],362,by kernel_rfl,by decide +kernel,by kernel_rfl⟩
  ·exact .inr ⟨flagNames.getD 5 [],364,by kernel_rfl,by decide +kernel,by kernel_rfl⟩
  ·exact .inr ⟨flagNames.getD 6 [],366,by kernel_rfl,by decide +kernel,by kernel_rfl⟩
  ·exact .inr ⟨flagNames.getD 7 [],368,by kernel_rfl,by decide +kernel,by kernel_rfl⟩
  ·exact .inr ⟨flagNames.getD 8 [],370,by kernel_rfl,by decide +kernel,by kernel_rfl⟩
  ·exact .inr ⟨flagNames.getD 9 [],372,by kernel_rfl,by decide +kernel,by kernel_rfl⟩
  ·intro i n1 n2 n3 n4 n5 n6 n7 n8 n9 n10
   refine .inl ⟨?_,?_⟩
   ·unfold zm5
    rw [List.findSome?_eq_none_iff]
    intro p hp
    have hp:=List.mem_range.mp hp
    have:p=0∨p=1∨p=2∨p=3∨p=4∨p=5∨p=6∨p=7∨p=8∨p=9:=by lia
    rcases this with rfl | rfl | rfl | rfl | rfl | rfl | rfl | rfl | rfl | rfl <;> simp [n1,n2,n3,n4,n5,n6,n7,n8,n9,n10]
   ·simp [-List.find?_eq_none,findBy,intKind,Value.isInt,n1.symm,n2.symm,n3.symm,n4.symm,n5.symm,n6.symm,n7.symm,n8.symm,n9.symm,n10.symm,n1,n2,n3,n4,n5,n6,n7,n8,n9,n10]
end
end Mine
namespace Mine
section
variable {K:Kc} {P:Params}
theorem ye5 (X:(hd2.heap_1 P).In K.s₀.heap) (G:K.s₀.heap.Ns mainGlobals K.mg) (hB : ∀ x:Str,x ≠ "__name__" → K.mb x=bootBuiltins x) (hd:K.hd=none) (n:Nat):LevK K (n+1) where
 hd:=hd
 sub:=fun p q hp hq σ=>by
  obtain ⟨fd,D⟩:=d_sub X G
  have h:=zN5 (n:=n) (σ:=σ) D ⟨_,mg_of X G (by rfl)⟩ ⟨_,mg_of X G (by rfl)⟩ [p] [q] [loC p] [loC q] (zz9 p hp) (zz9 q hq) (by rw [sizeLine_eq]; simp) (by rw [sizeLine_eq]; simp)
  unfold subC
  simpa using h
 mv:=⟨_,mg_of X G (by rfl)⟩
 mx:=⟨_,mg_of X G (by rfl)⟩
 len1:=mg_none_of X G (by kernel_rfl)
 len2:=(hB _ (by decide +kernel)).trans (by kernel_rfl)
 min1:=mg_none_of X G (by kernel_rfl)
 min2:=(hB _ (by decide +kernel)).trans (by kernel_rfl)
 range1:=mg_none_of X G (by kernel_rfl)
 range2:=(hB _ (by decide +kernel)).trans (by kernel_rfl)
 list1:=mg_none_of X G (by kernel_rfl)
 list2:=(hB _ (by decide +kernel)).trans (by kernel_rfl)
theorem ye2 (X:(hd2.heap_1 P).In K.s₀.heap) (G:K.s₀.heap.Ns mainGlobals K.mg) (hB : ∀ x:Str,x ≠ "__name__" → K.mb x=bootBuiltins x) (hC:K.lexC=101) (hR:K.lexR=84) (hS:K.rdSt=zD3) (n:Nat):LexC K (K.s₀.heap.nsMap 100) (n+4):=by
 have LK:=zR4 X hC hR
 (have zq:=zR1 X; have e1:=zq.1; have e2:=zq.2.1; have e3:=zq.2.2.1; have e4:=zq.2.2.2)
 obtain ⟨fr,Mr⟩:=yj2 X e2
 obtain ⟨fg,Mg⟩:=m_get X e3
 obtain ⟨fp,Mp⟩:=yj3 X e4
 rw [← hR] at Mr
 have T:TokK K (K.s₀.heap.nsMap 100) (n+2):=⟨LK,yh9 hS LK Mr,⟨fr,Mr⟩⟩
 have i1:K.mg ("iter" : Str)=none:=mg_none_of X G (by kernel_rfl)
 have i2:K.mb ("iter" : Str)=some (.builtin "iter"):=(hB _ (by decide +kernel)).trans (by kernel_rfl)
 exact {
  LK:=LK
  get:=fun hc hp hz hs=>zZ5 T Mg i1 i2 hc hp hz hs
  pop:=fun hs=>zX0 T Mg hs
  push:=fun hz hs=>(zO9 (n:=n+3) LK Mp hz hs) }
theorem ye7 (X:(hd2.heap_1 P).In K.s₀.heap) (G:K.s₀.heap.Ns mainGlobals K.mg) (hB : ∀ x:Str,x ≠ "__name__" → K.mb x=bootBuiltins x) (hC:K.lexC=101) (hR:K.lexR=84) (hS:K.rdSt=zD3) (hd:K.hd=none) (hcd:CodeHd K.s₀.heap 142 138) (hbm:K.s₀.heap.BuiltinsAt K.mg 138) :
  LawC K (K.s₀.heap.nsMap 100) 8 138 "_law_lexer" where
 hd:=hd
 iter1:=mg_none_of X G (by kernel_rfl)
 iter2:=(hB _ (by decide +kernel)).trans (by kernel_rfl)
 stop1:=mg_none_of X G (by kernel_rfl)
 stop2:=(hB _ (by decide +kernel)).trans (by kernel_rfl)
 range1:=mg_none_of X G (by kernel_rfl)
 range2:=(hB _ (by decide +kernel)).trans (by kernel_rfl)
 len1:=mg_none_of X G (by kernel_rfl)
 len2:=(hB _ (by decide +kernel)).trans (by kernel_rfl)
 min1:=mg_none_of X G (by kernel_rfl)
 min2:=(hB _ (by decide +kernel)).trans (by kernel_rfl)
 abs1:=mg_none_of X G (by kernel_rfl)
 abs2:=(hB _ (by decide +kernel)).trans (by kernel_rfl)
 sum1:=mg_none_of X G (by kernel_rfl)
 sum2:=(hB _ (by decide +kernel)).trans (by kernel_rfl)
 zip1:=mg_none_of X G (by kernel_rfl)
 zip2:=(hB _ (by decide +kernel)).trans (by kernel_rfl)
 heaps:=fun σ ns hn=>by
  refine obEE (yg5 X G) fun a fd D=>?_
  exact (zF3 (n:=7) hd D (mg_none_of X G (by kernel_rfl)) ((hB _ (by decide +kernel)).trans (by kernel_rfl)) ns hn)
 oct:=fun σ N c M h1 h2 hc=>by
  obtain ⟨fd,D⟩:=d_oct X G
  exact zP6 (n:=7) D N c M h1 h2 hc
 var:=fun σ a os rest c hl hm hs hz=>by
  obtain ⟨fd,D⟩:=yl8 X G
  exact zx8 (n:=7) D (mg_none_of X G (by kernel_rfl)) ((hB _ (by decide +kernel)).trans (by kernel_rfl)) a os rest c hl hm hs hz
 stop:=by
  obtain ⟨fd,D⟩:=yl8 X G
  exact ⟨_,D.mg,.fn _ _ D.fn,fun σ a x hx=>zC7 (n:=7) hd D (mg_none_of X G (by kernel_rfl)) ((hB _ (by decide +kernel)).trans (by kernel_rfl)) a x hx⟩
 nam:=fun σ low hl=>by
  obtain ⟨fd,D⟩:=yg3 X G
  exact zE6 (n:=7) D (mg_none_of X G (by kernel_rfl)) ((hB _ (by decide +kernel)).trans (by kernel_rfl)) low hl
 pre:=fun σ F hz hs=>by
  obtain ⟨fd,D⟩:=ya2 X G
  obtain ⟨fv,T⟩:=yh7 X G
  exact zy9 (n:=7) D T (mg_none_of X G (by kernel_rfl)) ((hB _ (by decide +kernel)).trans (by kernel_rfl)) (mg_none_of X G (by kernel_rfl)) ((hB _ (by decide +kernel)).trans (by kernel_rfl)) F hz hs
 sent:=fun σ rows bare st hr hl=>by
  obtain ⟨fd,D⟩:=yl9 X G
  obtain ⟨fq,Dq⟩:=d_quo X G
  exact zJ9 (n:=7) hd D (mg_none_of X G (by kernel_rfl)) ((hB _ (by decide +kernel)).trans (by kernel_rfl)) (fun σ T hT=>zO8 (n:=6) (σ:=σ) (yd4 X G) Dq T hT) rows bare st hr hl
 sig:=fun σ c hc=>by
  obtain ⟨fd,D⟩:=yg2 X G
  exact zD2 (n:=7) hd D (mg_none_of X G (by kernel_rfl)) ((hB _ (by decide +kernel)).trans (by kernel_rfl)) (mg_none_of X G (by kernel_rfl)) ((hB _ (by decide +kernel)).trans (by kernel_rfl)) c hc
 lexc:=ye2 X G hB hC hR hS 4
 lexn:=fun σ full hP=>by
  refine zd4 (yg4 X G) fun fd D e1 e2=>?_
  (have zq:=zR1 X; have q1:=zq.1; have q2:=zq.2.1; have q3:=zq.2.2.1; have q4:=zq.2.2.2)
  obtain ⟨fI,MI⟩:=yj4 X q1
  exact zE8 (n:=5) (zR4 X hC hR) hS hd D ⟨142,e1,hcd⟩ hbm (by rw [hC]; exact mg_of X G (by kernel_rfl)) MI (by rw [e2]; exact hP)
 lev:=fun σ x y mc hx hy hcx hcy=>by
  obtain ⟨fd,D⟩:=d_lev X G
  exact zS0 (n:=7) (ye5 X G hB hd 6) D x y mc hx hy hcx hcy
end
end Mine
namespace Mine
theorem zF7 (names:List (Str × NameKind)) (L:Addr):((cellsFrom (L+1) names []).Pairwise fun x y=>x.2≠y.2)∧∀ n c,(n,c)∈cellsFrom (L+1) names []→L<c:=by
 have ok:=cellsFrom_ok names { objs:=Array.replicate (L+1) default } (L+1) [] ⟨fun _ _ hm=>(nomatch hm),List.Pairwise.nil⟩ (by simp)
 have e:({ objs:=Array.replicate (L+1) default }:Heap).objs.size=L+1:=by simp
 rw [e] at ok
 exact ⟨ok.apart,fun n c hm=>(ok.empty n c hm).2⟩
theorem ya7 {cm:Str→Option Value} {cs:List (Str × Addr)} {cells:List (Addr × Obj)} (C:CellsAre cm cs cells) : ∀ n c,(n,c)∈cs→∃ o,(c,o)∈cells∧o.data = .cell (cm n):=by
 induction C with
 | nil=>intro n c h; cases h
 | cons h r ih =>
  intro n c hm
  rcases List.mem_cons.mp hm with e | hm
  ·cases e; exact ⟨_,List.mem_cons_self,h⟩
  ·refine obEA (ih n c hm) fun o h1 h2=>?_
   exact ⟨o,List.mem_cons_of_mem _ h1,h2⟩
noncomputable def zZ1:List Str := "heaps" :: "low" :: "turn" :: "names" :: "flags" :: "number" :: "told" :: "due" :: "octets" :: "heap" :: "tape" :: "numbers" :: "kinds" :: "own" :: "letters" :: "words" :: "forms" :: "word" :: "lexer" :: "far" :: "place" :: "one" :: "later" :: "other" :: "more" :: "lies" :: "met" :: "rows" :: "step" :: "old" :: "new" :: "changed" :: "sent" :: "even" :: "reader" :: "signs" :: "counts" :: "squares" :: []
theorem law_run {prog:Program} {w:World} {P:Params} {s₁:Shared} {gh h₁:Heap} {mg mb m cm:Str→Option Value} {loose:List Str} {mean:ExcName→Option Value} {pp:Program} {lst fa:Addr} {cd:Value} {name:Str} {cells:List (Addr × Obj)} {vs:List Value} {ns:List Int} {tk:Nat} {L:Addr}
  {Q:Flow→Shared→Prop} {E:Value→Shared→Prop} (T:Top pp loose mean mg mb gh) (X:(hd2.heap_1 P).In gh) (F:Fr gh L h₁ m) (CC:CellsAre cm (cellsFrom (L+1) (za4 ze0).names []) cells) (N:News gh L h₁ (cells++[(138,tabObj #[])])) (hcd:CodeHd gh 142 138) (h138:138<L)
  (hm:m "script" = some (.ref lst)) (hlst:gh.get? lst=some { cls:=.type "list",data:=.seq vs.toArray }) (hI:IntsAre vs ns) (hns:ns.length≤63)
  (hQ : ∀ s',(∃ h tk,s' = { s₁ with heap:=h,toks:=tk })→(∀ b o,gh.get? b=some o→s'.heap.get? b=some o)→(∃ ps,s'.heap.get? 138=some (tabObj ps))→Q (.ret (.bool true)) s') :
  wpAny (model prog w) (callerA.deeper (envOfC name (za4 ze0) L fa cd)) (execs (zb6 ze0) (envOfC name (za4 ze0) L fa cd)) Q E { s₁ with heap:=h₁,toks:=tk }:=by
 let K:Kc:={ prog:=prog,w:=w,s₀:={ s₁ with heap:=gh },mg:=mg,mb:=mb,hd:=none,lexC:=101,lexR:=84,rdSt:=zD3 }
 have h138o:(138,tabObj #[])∈cells++[(138,tabObj #[])]:=by simp
 (have zq:=N _ h138o; have n1:=zq.1; have n2:=zq.2.1; have n3:=zq.2.2)
 have G:Gnd K:=⟨T.g,T.b,T.nolimit⟩
 have hbm:gh.BuiltinsAt mg 138:=by
  refine zQ0 T.bmain fun bm ob q1 q2 q3 q4 q5 q6=>?_
  refine ⟨bm,ob,q1,q2,fun e=>?_,fun e=>?_,q3,q4,q5,q6⟩
  ·subst e
   refine zE1 T.g fun o es ep r1 r2 _=>?_
   rw [q3] at r1; cases r1; rw [q6] at r2; cases r2
  ·subst e; rw [n3] at q3; cases q3
 have LC:=ye7 (K:=K) (P:=P) X T.g T.builtins rfl rfl rfl rfl hcd hbm
 (have zq:=zF7 (za4 ze0).names L; have ap:=zq.1; have ab:=zq.2)
 obtain ⟨g,R⟩:=zO0 (K:=K) (gh:=gh) (h₁:=h₁) (L:=L) (fa:=fa) (P:=138) (cd:=cd) (name:=name) (sc:=za4 ze0) (m:=m) (lst:=lst) (vs:=vs) (ns:=ns) (tk:=tk) (cs:=zc1 "_law_lexer") (p := "script") (names:=zZ1) rfl rfl G F n1 n3 h138 rfl
  (fun x c hx=>by
   have hm:=mem_of_lookup hx
   refine obEA (ya7 CC x c hm) fun o h1 h2=>?_
   (have zq:=N _ (List.mem_append_left _ h1); have k1:=zq.1; have k2:=zq.2.1; have k3:=zq.2.2)
   exact ⟨⟨_,o,k1,h2⟩,k3,ab x c hm⟩)
  (fun x y c h1 h2=>name_of_addr ap (mem_of_lookup h1) (mem_of_lookup h2)) hm (by decide +kernel) hlst hI (by rw [sizeLine_eq]; exact Nat.le_trans ‹_› (by decide)) (by decide +kernel) (by decide +kernel)
 have F0:Fit K 8 (callerA.deeper (envOfC name (za4 ze0) L fa cd)):=⟨by show callerA.depth+1+10*8≤900; decide +kernel,by show callerA.units+3+200*8≤9000; decide +kernel,rfl⟩
 have B:=zZ0 (env:=envOfC name (za4 ze0) L fa cd) (σ:=[(138,.codes (zc1 "_law_lexer"))]) rfl LC (by simp) ns hns
 refine B.go F0 rfl rfl R fun g' s' f l R' r'=>?_
 simp only [RF] at r'
 (refine obEA r' fun u zq1 hu=>?_; subst zq1)
 simp only [RV,RW] at hu
 subst hu
 refine obEE R'.sh fun h tk' e=>?_
 refine yd8 (R'.ob 138 _ (List.mem_singleton_self _)) fun _ ps hps _=>?_
 exact hQ s' ⟨h,tk',e⟩ R'.keeps ⟨ps,hps⟩
theorem list_at {P:Params} {h gh:Heap} {lst:Addr} {xs:List PyData} {vs:List Value} (W:Well P h (.ref lst) (ofPy (.list xs))) (hL:gh.IsList lst vs.toArray) (hg : ∀ b o,gh.get? b=some o→h.get? b=some o) :
  gh.get? lst=some { cls:=.type "list",data:=.seq vs.toArray }:=by
 have e:ofPy (.list xs) = .list (ofPys xs):=rfl
 rw [e] at W
 refine zz5 hL fun o h1 h2 n h3=>?_
 have h4:=hg _ _ h1
 cases W with
 | list h5 _ =>
  rw [h5] at h4
  cases h4
  cases h3
  exact h1
end Mine
set_option maxRecDepth 100000 in
theorem Mine.said (h:PySem.Challenge.rw_uc0008_02.row.wellSaid=true):OpenLaw.wellSaid PySem.Challenge.rw_uc0008_02=true:=by
 unfold OpenLaw.wellSaid
 repeat' (with_reducible apply look_both)
 ·exact h
 all_goals decide +kernel
set_option maxRecDepth 100000 in
set_option maxHeartbeats 8000000 in
theorem PySem.Challenge.cw_uc0008_02_holds : PySem.Challenge.rw_uc0008_02.Holds :=
 (fun h:PySem.Challenge.rw_uc0008_02.row.Holds=>⟨Mine.said h.1,h⟩) (hd2 (by
 k_fill
 intro w s₀ s₁ mg mb G Y fa o pm cd doc dV kV ho hd hcd hD hmg hg args vals as hpre hlay hrd hwl hlo
 have KX:=km_in_of Y
 km_tabs Y
 have X:=(Ground.X G).1
 have V:=(Ground.X G).2
 refine Ground.open G ?_
 intro T B D TE TW
 try (refine guard_noD D (by decide +kernel) ?_; clear D)
 km_lay T hmg ho hd cd
 clear hmg
 wrow_args hpre hlay hrd hwl hlo
 refine enter_call ?_
 w_top on
 kn_posts
 have he:=Dflts.none hD rfl
 subst he
 have he:=Dflts.noKw hD
 subst he
 refine call_cellsN (by decide) ho (fd_plain hd) (Top.nolimit T) hcd rfl (kinds_of (by kinds_ok)) (by decide +kernel) fun h₁ tk₁ cells F N0 X0=>?_
 clear hd
 kn_ghosts F T
 k_drop
 (all_goals try k_fold)
 rename Top topProg _ _ _ _ _=>TT
 rename Frag.In _ (ghostOf _ _)=>XX
 rename Fr (ghostOf _ _) _ _ _=>FF
 rename News (ghostOf _ _) _ _ _=>NN
 rename CellsAre _ _ _=>CC
 rename Well _ _ _ _=>WW
 rename IntsAre _ _=>II
 rename TabsAt _ _=>TA
 rename ¬ _=>hlen
 rename _ = #[]=>hgens
 refine Mine.law_run TT XX FF CC NN codeHd (by assumption) ?_ (Mine.list_at WW lifted (fun b o e=>of_hideAll _ e)) II ?_ ?_
 ·kernel_rfl
 ·omega
 ·rintro s' ⟨h,tk,e⟩ hk hp
  subst e
  exact ⟨⟨.inl ⟨_,.bool true,[],rfl,fun _=>rfl,.bool true,by kernel_rfl,fun h=>⟨List.nodup_nil,fun a ha=>(nomatch ha)⟩⟩,hk,rfl,hgens⟩,hp,trivial⟩))
